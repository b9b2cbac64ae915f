import PyProof.Rows.All
import Wide.All
import OpenK.AllK
import Wide.FinOn
import Lean
import PySem.Challenge.RW_rw0103_01
set_option Elab.async false
set_option rowWalk.seconds 0
set_option compiler.extract_closed false
section
open PySem PySem.W PyProof.Rows
name_quick tw10212804917625248896 for PySem.W.S.findZ by PySem.W.S.findZ_eq
name_quick tw10294118229990073760 for PySem.W.S.findZ by PySem.W.S.findZ_eq
name_quick tw10648816792666195974 for PySem.W.S.findZ by PySem.W.S.findZ_eq
name_quick tw10698057553749749337 for PySem.W.S.findZ by PySem.W.S.findZ_eq
name_quick tw10792498714594961201 for PySem.W.S.findZ by PySem.W.S.findZ_eq
name_quick tw11066385474520676512 for PySem.W.S.findZ by PySem.W.S.findZ_eq
name_quick tw11384182702204212275 for PySem.W.S.findZ by PySem.W.S.findZ_eq
name_quick tw11401859456886640639 for PySem.W.S.findZ by PySem.W.S.findZ_eq
name_quick tw11429584451438056573 for PySem.W.S.findZ by PySem.W.S.findZ_eq
name_quick tw11907897558876765624 for PySem.W.S.findZ by PySem.W.S.findZ_eq
name_quick tw11962351593759143498 for PySem.W.S.findZ by PySem.W.S.findZ_eq
name_quick tw1205274952441263945 for PySem.W.S.findZ by PySem.W.S.findZ_eq
name_quick tw12269216009862288129 for PySem.W.S.findZ by PySem.W.S.findZ_eq
name_quick tw12459912946257978736 for PySem.W.S.findZ by PySem.W.S.findZ_eq
name_quick tw12727641955093265886 for PySem.W.S.findZ by PySem.W.S.findZ_eq
name_quick tw12772213712371865176 for PySem.W.S.findZ by PySem.W.S.findZ_eq
name_quick tw13034982811429478159 for PySem.W.S.findZ by PySem.W.S.findZ_eq
name_quick tw13055953723892786844 for PySem.W.S.findZ by PySem.W.S.findZ_eq
name_quick tw13135312941875745310 for PySem.W.S.findZ by PySem.W.S.findZ_eq
name_quick tw13142723645059500955 for PySem.W.S.findZ by PySem.W.S.findZ_eq
name_quick tw13171189065178304875 for PySem.W.S.findZ by PySem.W.S.findZ_eq
name_quick tw13294680673763070992 for PySem.W.S.findZ by PySem.W.S.findZ_eq
name_quick tw13347621489011750686 for PySem.W.S.findZ by PySem.W.S.findZ_eq
name_quick tw13444670453868202053 for PySem.W.S.findZ by PySem.W.S.findZ_eq
name_quick tw13674586047789940208 for PySem.W.S.findZ by PySem.W.S.findZ_eq
name_quick tw13757698761724263525 for PySem.W.S.findZ by PySem.W.S.findZ_eq
name_quick tw13797355535440723964 for PySem.W.S.findZ by PySem.W.S.findZ_eq
name_quick tw13810262117814702294 for PySem.W.S.findZ by PySem.W.S.findZ_eq
name_quick tw13812277999558781770 for PySem.W.S.findZ by PySem.W.S.findZ_eq
name_quick tw1383625962624193546 for PySem.W.S.findZ by PySem.W.S.findZ_eq
name_quick tw13953587524928339648 for PySem.W.S.findZ by PySem.W.S.findZ_eq
name_quick tw140001813534094272 for PySem.W.S.findZ by PySem.W.S.findZ_eq
name_quick tw140236481695663071 for PySem.W.S.findZ by PySem.W.S.findZ_eq
name_quick tw14172470266813156586 for PySem.W.S.findZ by PySem.W.S.findZ_eq
name_quick tw14211855207546398734 for PySem.W.S.findZ by PySem.W.S.findZ_eq
name_quick tw14243238205550065757 for PySem.W.S.findZ by PySem.W.S.findZ_eq
name_quick tw14424681132571578402 for PySem.W.S.findZ by PySem.W.S.findZ_eq
name_quick tw14760874974797668852 for PySem.W.S.findZ by PySem.W.S.findZ_eq
name_quick tw14782755387869428366 for PySem.W.S.findZ by PySem.W.S.findZ_eq
name_quick tw14827714588952709054 for PySem.W.S.findZ by PySem.W.S.findZ_eq
name_quick tw1484588488312774368 for PySem.W.S.findZ by PySem.W.S.findZ_eq
name_quick tw14904681115217272601 for PySem.W.S.findZ by PySem.W.S.findZ_eq
name_quick tw14958820412457663293 for PySem.W.S.findZ by PySem.W.S.findZ_eq
name_quick tw15042883488752021643 for PySem.W.S.findZ by PySem.W.S.findZ_eq
name_quick tw15402603294489630176 for PySem.W.S.findZ by PySem.W.S.findZ_eq
name_quick tw15500950679217378802 for PySem.W.S.findZ by PySem.W.S.findZ_eq
name_quick tw15539815450414544023 for PySem.W.S.findZ by PySem.W.S.findZ_eq
name_quick tw15579122977737235979 for PySem.W.S.findZ by PySem.W.S.findZ_eq
name_quick tw16108870410212019532 for PySem.W.S.findZ by PySem.W.S.findZ_eq
name_quick tw16159750380562633221 for PySem.W.S.findZ by PySem.W.S.findZ_eq
name_quick tw16279288168775177219 for PySem.W.S.findZ by PySem.W.S.findZ_eq
name_quick tw16409965706819354750 for PySem.W.S.findZ by PySem.W.S.findZ_eq
name_quick tw16729077633258034165 for PySem.W.S.findZ by PySem.W.S.findZ_eq
name_quick tw16822532161544500889 for PySem.W.S.findZ by PySem.W.S.findZ_eq
name_quick tw17013487888433625170 for PySem.W.S.findZ by PySem.W.S.findZ_eq
name_quick tw17062427158221528723 for PySem.W.S.findZ by PySem.W.S.findZ_eq
name_quick tw1708089923452030704 for PySem.W.S.findZ by PySem.W.S.findZ_eq
name_quick tw17187875760726034783 for PySem.W.S.findZ by PySem.W.S.findZ_eq
name_quick tw17214186515701724070 for PySem.W.S.findZ by PySem.W.S.findZ_eq
name_quick tw17292613610259460706 for PySem.W.S.findZ by PySem.W.S.findZ_eq
name_quick tw17318462890700432884 for PySem.W.S.findZ by PySem.W.S.findZ_eq
name_quick tw17351735930882485243 for PySem.W.S.findZ by PySem.W.S.findZ_eq
name_quick tw17483705464198625004 for PySem.W.S.findZ by PySem.W.S.findZ_eq
name_quick tw17518593693041627797 for PySem.W.S.findZ by PySem.W.S.findZ_eq
name_quick tw17689344090056996911 for PySem.W.S.findZ by PySem.W.S.findZ_eq
name_quick tw17760279517084355780 for PySem.W.S.findZ by PySem.W.S.findZ_eq
name_quick tw17963105932079019327 for PySem.W.S.findZ by PySem.W.S.findZ_eq
name_quick tw1825952489489211193 for PySem.W.S.findZ by PySem.W.S.findZ_eq
name_quick tw1972164579936704799 for PySem.W.S.findZ by PySem.W.S.findZ_eq
name_quick tw2080317491765294665 for PySem.W.S.findZ by PySem.W.S.findZ_eq
name_quick tw2107523057676978006 for PySem.W.S.findZ by PySem.W.S.findZ_eq
name_quick tw2135409205425526673 for PySem.W.S.findZ by PySem.W.S.findZ_eq
name_quick tw2144661209622563809 for PySem.W.S.findZ by PySem.W.S.findZ_eq
name_quick tw2295934692909999376 for PySem.W.S.findZ by PySem.W.S.findZ_eq
name_quick tw2353497105660221152 for PySem.W.S.findZ by PySem.W.S.findZ_eq
name_quick tw2400638427578300857 for PySem.W.S.findZ by PySem.W.S.findZ_eq
name_quick tw2403389108928632939 for PySem.W.S.findZ by PySem.W.S.findZ_eq
name_quick tw2455152089536381482 for PySem.W.S.findZ by PySem.W.S.findZ_eq
name_quick tw2483420100392427323 for PySem.W.S.findZ by PySem.W.S.findZ_eq
name_quick tw2570914705882880060 for PySem.W.S.findZ by PySem.W.S.findZ_eq
name_quick tw2646887283097553488 for PySem.W.S.findZ by PySem.W.S.findZ_eq
name_quick tw2941924889016668590 for PySem.W.S.findZ by PySem.W.S.findZ_eq
name_quick tw3235425350174046738 for PySem.W.S.findZ by PySem.W.S.findZ_eq
name_quick tw3300257896294614128 for PySem.W.S.findZ by PySem.W.S.findZ_eq
name_quick tw3300454383303005205 for PySem.W.S.findZ by PySem.W.S.findZ_eq
name_quick tw3436668677267843481 for PySem.W.S.findZ by PySem.W.S.findZ_eq
name_quick tw3641951560692057861 for PySem.W.S.findZ by PySem.W.S.findZ_eq
name_quick tw3721919958574915784 for PySem.W.S.findZ by PySem.W.S.findZ_eq
name_quick tw3919386906821981792 for PySem.W.S.findZ by PySem.W.S.findZ_eq
name_quick tw3985964047577975286 for PySem.W.S.findZ by PySem.W.S.findZ_eq
name_quick tw4039707410889071942 for PySem.W.S.findZ by PySem.W.S.findZ_eq
name_quick tw4077048163395320219 for PySem.W.S.findZ by PySem.W.S.findZ_eq
name_quick tw4096221787609464999 for PySem.W.S.findZ by PySem.W.S.findZ_eq
name_quick tw4148533619186036948 for PySem.W.S.findZ by PySem.W.S.findZ_eq
name_quick tw4321966507151631593 for PySem.W.S.findZ by PySem.W.S.findZ_eq
name_quick tw446995266069924076 for PySem.W.S.findZ by PySem.W.S.findZ_eq
name_quick tw4490611911172417597 for PySem.W.S.findZ by PySem.W.S.findZ_eq
name_quick tw4547051000311932777 for PySem.W.S.findZ by PySem.W.S.findZ_eq
name_quick tw457283913326318344 for PySem.W.S.findZ by PySem.W.S.findZ_eq
name_quick tw4683681711962371626 for PySem.W.S.findZ by PySem.W.S.findZ_eq
name_quick tw4684226298888400098 for PySem.W.S.findZ by PySem.W.S.findZ_eq
name_quick tw4734895289157585001 for PySem.W.S.findZ by PySem.W.S.findZ_eq
name_quick tw4757598234375876256 for PySem.W.S.findZ by PySem.W.S.findZ_eq
name_quick tw4847832954114039074 for PySem.W.S.findZ by PySem.W.S.findZ_eq
name_quick tw4849480874435393781 for PySem.W.S.findZ by PySem.W.S.findZ_eq
name_quick tw4884199854448574 for PySem.W.S.findZ by PySem.W.S.findZ_eq
name_quick tw4906484309439969231 for PySem.W.S.findZ by PySem.W.S.findZ_eq
name_quick tw5101696844757716304 for PySem.W.S.findZ by PySem.W.S.findZ_eq
name_quick tw5217270863462422736 for PySem.W.S.findZ by PySem.W.S.findZ_eq
name_quick tw5459702643516471331 for PySem.W.S.findZ by PySem.W.S.findZ_eq
name_quick tw5472014076119043557 for PySem.W.S.findZ by PySem.W.S.findZ_eq
name_quick tw5710976707192308385 for PySem.W.S.findZ by PySem.W.S.findZ_eq
name_quick tw5832305185047221409 for PySem.W.S.findZ by PySem.W.S.findZ_eq
name_quick tw5994696166404524948 for PySem.W.S.findZ by PySem.W.S.findZ_eq
name_quick tw6164951957248312632 for PySem.W.S.findZ by PySem.W.S.findZ_eq
name_quick tw6469784823511061222 for PySem.W.S.findZ by PySem.W.S.findZ_eq
name_quick tw6522051377940421278 for PySem.W.S.findZ by PySem.W.S.findZ_eq
name_quick tw6605169337270321112 for PySem.W.S.findZ by PySem.W.S.findZ_eq
name_quick tw6953138203311097117 for PySem.W.S.findZ by PySem.W.S.findZ_eq
name_quick tw6968137755033780318 for PySem.W.S.findZ by PySem.W.S.findZ_eq
name_quick tw7000281897963312321 for PySem.W.S.findZ by PySem.W.S.findZ_eq
name_quick tw7164969610272591079 for PySem.W.S.findZ by PySem.W.S.findZ_eq
name_quick tw7217548393331319763 for PySem.W.S.findZ by PySem.W.S.findZ_eq
name_quick tw7249309231779463276 for PySem.W.S.findZ by PySem.W.S.findZ_eq
name_quick tw7448374676410215334 for PySem.W.S.findZ by PySem.W.S.findZ_eq
name_quick tw7774113678449685934 for PySem.W.S.findZ by PySem.W.S.findZ_eq
name_quick tw8002303944043701648 for PySem.W.S.findZ by PySem.W.S.findZ_eq
name_quick tw8060666987683057360 for PySem.W.S.findZ by PySem.W.S.findZ_eq
name_quick tw8080008513338510535 for PySem.W.S.findZ by PySem.W.S.findZ_eq
name_quick tw8159993647027272844 for PySem.W.S.findZ by PySem.W.S.findZ_eq
name_quick tw8219003486749837733 for PySem.W.S.findZ by PySem.W.S.findZ_eq
name_quick tw8285278889055680438 for PySem.W.S.findZ by PySem.W.S.findZ_eq
name_quick tw8480184845173159842 for PySem.W.S.findZ by PySem.W.S.findZ_eq
name_quick tw861502493610598483 for PySem.W.S.findZ by PySem.W.S.findZ_eq
name_quick tw8726500145642417389 for PySem.W.S.findZ by PySem.W.S.findZ_eq
name_quick tw8756951275005108937 for PySem.W.S.findZ by PySem.W.S.findZ_eq
name_quick tw8760152093665844161 for PySem.W.S.findZ by PySem.W.S.findZ_eq
name_quick tw8912161614967838395 for PySem.W.S.findZ by PySem.W.S.findZ_eq
name_quick tw896239598344801917 for PySem.W.S.findZ by PySem.W.S.findZ_eq
name_quick tw9116068151291705539 for PySem.W.S.findZ by PySem.W.S.findZ_eq
name_quick tw9495317472360511255 for PySem.W.S.findZ by PySem.W.S.findZ_eq
name_quick tw9527419180321252691 for PySem.W.S.findZ by PySem.W.S.findZ_eq
name_quick tw9536688357841153863 for PySem.W.S.findZ by PySem.W.S.findZ_eq
name_quick tw9583418258255874565 for PySem.W.S.findZ by PySem.W.S.findZ_eq
name_quick tw9615563845995560447 for PySem.W.S.findZ by PySem.W.S.findZ_eq
name_quick tw9796564346219866840 for PySem.W.S.findZ by PySem.W.S.findZ_eq
name_quick tw9848817304349107530 for PySem.W.S.findZ by PySem.W.S.findZ_eq
name_quick tw9860861378791804195 for PySem.W.S.findZ by PySem.W.S.findZ_eq
name_quick tw9879335643197240621 for PySem.W.S.findZ by PySem.W.S.findZ_eq
name_quick tw9972681490609642005 for PySem.W.S.findZ by PySem.W.S.findZ_eq
set_option maxRecDepth 100000 in
set_option maxHeartbeats 40000000 in
open_top hd for PySem.Challenge.rw_rw0103_01
end
local macro_rules | `(tactic| omega) => `(tactic| ((fail_if_success (fail_if_success omega (config := {}))); first | (law_clear; lia) | omega (config := {})))
local macro_rules | `(tactic| walk_at $s:str) => `(tactic| k_extra $s)
local macro_rules | `(tactic| passes_own) => `(tactic| assumption)
section
namespace Mine
/-- brackets side by side: a pair of the kind k, what is in it, what stands behind it -/
inductive Fo where
  | nil
  | cons (k : Nat) (a b : Fo)
def opn (k : Nat) : Nat := if k = 0 then 40 else if k = 1 then 91 else 123
def cls (k : Nat) : Nat := if k = 0 then 41 else if k = 1 then 93 else 125
namespace Fo
def app : Fo → Fo → Fo
  | nil, g => g
  | cons k a b, g => cons k a (b.app g)
def txt : Fo → List Nat
  | nil => []
  | cons k a b => opn k :: (a.txt ++ cls k :: b.txt)
def size : Fo → Nat
  | nil => 0
  | cons _ a b => a.size + b.size + 1
def ok : Fo → Prop
  | nil => True
  | cons k a b => k < 3 ∧ a.ok ∧ b.ok
theorem txt_app : ∀ f g : Fo, (f.app g).txt = f.txt ++ g.txt
  | nil, _ => rfl
  | cons k a b, g => by simp [app, txt, txt_app b g]
theorem size_app : ∀ f g : Fo, (f.app g).size = f.size + g.size
  | nil, _ => by simp [app, size]
  | cons k a b, g => by simp [app, size, size_app b g]; omega
theorem ok_app : ∀ f g : Fo, f.ok → g.ok → (f.app g).ok
  | nil, _, _, h => h
  | cons _ _ b, g, ⟨h1, h2, h3⟩, h => ⟨h1, h2, ok_app b g h3 h⟩
theorem len_txt : ∀ f : Fo, f.txt.length = 2 * f.size
  | nil => rfl
  | cons k a b => by simp [txt, size, len_txt a, len_txt b]; omega
end Fo
/-- a text with some brackets open (the last one first) and n pairs opened in all -/
inductive Op : List Nat → List Nat → Nat → Prop
  | base (f : Fo) : f.ok → Op f.txt [] f.size
  | step {t p : List Nat} {n : Nat} (k : Nat) (f : Fo) : k < 3 → f.ok → Op t p n → Op (t ++ opn k :: f.txt) (k :: p) (n + 1 + f.size)
theorem Op.addF {t p : List Nat} {n : Nat} (h : Op t p n) (g : Fo) (hg : g.ok) : Op (t ++ g.txt) p (n + g.size) := by
  cases h with
  | base f hf => have := Op.base (f.app g) (Fo.ok_app f g hf hg); rwa [Fo.txt_app, Fo.size_app] at this
  | step k f hk hf h =>
    have := Op.step k (f.app g) hk (Fo.ok_app f g hf hg) h
    rw [Fo.txt_app, Fo.size_app] at this
    simpa [Nat.add_assoc] using this
theorem Op.close {t p : List Nat} {k n : Nat} (h : Op t (k :: p) n) : Op (t ++ [cls k]) p n := by
  cases h with
  | step _ f hk hf h =>
    have := h.addF (.cons k f .nil) ⟨hk, hf, trivial⟩
    simp only [Fo.txt, Fo.size] at this
    have e : ∀ m : Nat, m + (f.size + 0 + 1) = m + 1 + f.size := by intro m; omega
    rw [e] at this
    simpa using this
theorem Op.opens {t p : List Nat} {k n : Nat} (h : Op t p n) (hk : k < 3) : Op (t ++ [opn k]) (k :: p) (n + 1) := by
  have := Op.step k .nil hk trivial h
  simpa [Fo.txt, Fo.size] using this
theorem Op.done {t : List Nat} {n : Nat} (h : Op t [] n) : ∃ f : Fo, f.ok ∧ f.size = n ∧ f.txt = t := by
  cases h with
  | base f hf => exact ⟨f, hf, rfl, rfl⟩
theorem Op.len {t p : List Nat} {n : Nat} (h : Op t p n) : t.length + p.length = 2 * n := by
  induction h with
  | base f _ => simp [Fo.len_txt]
  | step k f _ _ _ ih => simp [Fo.len_txt]; omega
theorem Op.kinds {t p : List Nat} {n : Nat} (h : Op t p n) : ∀ k ∈ p, k < 3 := by
  induction h with
  | base f _ => intro k hk; cases hk
  | step k f hk _ _ ih => intro j hj; rcases List.mem_cons.mp hj with rfl | hj; exact hk; exact ih j hj
theorem Op.depth {t p : List Nat} {n : Nat} (h : Op t p n) : p.length ≤ n := by
  induction h with
  | base f _ => simp
  | step k f _ _ _ ih => simp; omega
/-- a text by its signs' numbers -/
abbrev sOf (l : List Nat) : PySem.Str := ⟨l.toArray⟩
end Mine
end
section
open PySem PySem.W PySem.Calls PyProof.Rows
set_option maxRecDepth 100000
namespace Mine

/-- what a call of a def of the text's does: mt is what it may change of the caller's -/
def Tell (w : World) (mean : ExcName → Option Value) (mg mb : PySem.Str → Option Value) (f : Addr) (size usize : Nat) (args : List Value) (mt : List (Addr × Obj)) (Pre : Heap → Prop) (Post : Heap → List (Addr × Obj) → Value → Prop) : Prop :=
  ∀ (dp un : Nat) (gd : Option (List Code)) (cn : PySem.Str) (cs : Scope) (a : Addr) (ccd : Value) (cl : List (PySem.Str × Addr)) (outer : List Env) (A₀ : Around) (base h₀ : Heap) (L : Addr) (m : PySem.Str → Option Value) (s : Shared)
    (Q E : Value → Shared → Prop),
    Below A₀ base outer h₀ → Fr h₀ L s.heap m → (hd.heap_39 w.params).In h₀ → News h₀ L s.heap mt →
    Top hd.view_39 (looseW hd.view_39 [Str.ofString "EXACT_TOKEN_TYPES", Str.ofString "_twin_re_1", Str.ofString "_twin_re_2", Str.ofString "Whitespace"]) mean mg mb h₀ → cs.kind = .function → dp + size < recursionLimit → un + usize < cLine → Pre (hideAll s.heap (mt.map (·.1))) →
    (∀ r news' h' tk', Fr h₀ L h' m → News h₀ L h' news' → (hideAll s.heap (mt.map (·.1))).StaysIn h' → Post h' news' r → Q r { s with heap := h', toks := tk' }) →
    wpAny (model PySem.Challenge.rw_rw0103_01.row.prog w) (ktrTop dp un gd cn cs L a ccd cl outer) (call (.ref f) args) Q E s

section
variable {prog : Program} {w : World} {A₀ : Around} {s : Shared} {K : Frag} {base h₀ : Heap} {outer : List Env} {L : Addr} {m mg mb : PySem.Str → Option Value} {news : List (Addr × Obj)} {p : Program} {loose : List PySem.Str} {mean : ExcName → Option Value}
theorem enter {dp un : Nat} {gd : Option (List Code)} {cn : PySem.Str} {cs : Scope} {a : Addr} {ccd : Value} {cl : List (PySem.Str × Addr)} {Q E : Value → Shared → Prop} {name qual : PySem.Str} {params : Arguments} {body : List Stmt} {scope : Scope} {dV kV doc pm cdv ct oc : Value} {an od : Option Addr} {osl : Array (Option Value)} {f : Addr} {vals : List Value} {binds : List (PySem.Str × Value)}
    (B : Below A₀ base outer h₀) (F : Fr h₀ L s.heap m) (X₀ : K.In h₀) (N : News h₀ L s.heap news) (T : Top p loose mean mg mb h₀) (hke : cs.kind = .function)
    (ho : K.lookup f = some ⟨oc, od, .func (fnOf name qual params body scope dV kV doc pm an cdv ct), osl⟩) (hcd : codeIn K cdv qual = true) (hroom : dp < recursionLimit)
    (hbind : BindsTo s (fnOf name qual params body scope dV kV doc pm an cdv ct) ⟨vals, []⟩ binds) (hloc : ∀ y ∈ binds, scope.names.lookup y.1 = some .local)
    (h : ∀ g L' h₁, g = hideAll s.heap (news.map (·.1)) → Fr g L' h₁ (fun y => binds.reverse.lookup y) → News g L' h₁ news → (∀ p ∈ news, p.1 < L') → Below (ktrTop dp un gd cn cs L a ccd cl outer) base (envX cn cs L a ccd cl :: outer) g → K.In g → Top p loose mean mg mb g →
      wpAny (model prog w) (ktrTop (dp + 1) (un + 3) gd qual scope L' f cdv [] (envX cn cs L a ccd cl :: outer)) (execs body (envX qual scope L' f cdv []))
        (fun fl s' => LeaveK h₀ L m g (fun r s' => match r with | .ok (.ret v) => Q v s' | .ok _ => False | .error e => E e s') (match fl with | .ret v => v | _ => .none) s')
        (fun e s' => wpAny (model prog w) (ktrTop (dp + 1) (un + 3) gd qual scope L' f cdv [] (envX cn cs L a ccd cl :: outer)) (leaving (envX qual scope L' f cdv []) e) (fun _ s'' => E e s'') (fun e' s'' => E e' s'') s')
        { s with heap := h₁, toks := s.toks + binds.length })
    (hco : scope.isCoroutine = false) (hgen : scope.isGenerator = false) (hk : scope.kind = .function)
    (hcell : ∀ x ∈ scope.names, x.2 ≠ .cell) : wpAny (model prog w) (ktrTop dp un gd cn cs L a ccd cl outer) (call (.ref f) vals) Q E s := by
  refine wpAny_call ?_
  obtain ⟨FG, BG, st, lv⟩ := groundX (A := ktrTop dp un gd cn cs L a ccd cl outer) (env := envX cn cs L a ccd cl) (R := fun r s' => match r with | .ok (.ret v) => Q v s' | .ok _ => False | .error e => E e s') B F N rfl rfl hke
  refine codeAny_call_def hroom (X₀.keeps F.keep f _ ho) rfl (T.nolimit.keeps F.keep) (codeRec_of (X₀.keeps F.keep) hcd) rfl hbind hcell hloc (fun h₁ hns hk₁ => ?_) hco hgen hk
  exact wpAny_mono (h _ s.heap.objs.size h₁ rfl ⟨hns, fun b o e => hk₁ b o (of_hideAll _ e), Nat.le_of_eq (hideAll_size _ _)⟩
    (fun p hp => ⟨hk₁ _ _ (N p hp).1, Nat.ne_of_lt (Heap.lt_size (N p hp).1), hideAll_none _ (List.mem_map_of_mem hp)⟩) (fun p hp => Heap.lt_size (N p hp).1) BG (X₀.keeps st) (T.keeps st))
    (fun fl s' hl => lv _ _ hl) fun _ _ y => y
end

theorem lk1 (x : PySem.Str) (v : Value) : (fun y => [(x, v)].lookup y) = fun y => if y = x then some v else none := by
  funext y
  by_cases h : y = x
  · subst h; simp [List.lookup]
  · have : (y == x) = false := by simpa using h
    simp [List.lookup, h, this]
theorem lk2 (x x' : PySem.Str) (v v' : Value) : (fun y => [(x, v), (x', v')].lookup y) = fun y => if y = x then some v else if y = x' then some v' else none := by
  funext y
  by_cases h : y = x
  · subst h; simp [List.lookup]
  · have : (y == x) = false := by simpa using h
    simp only [List.lookup, h, this, if_false]
    exact congrFun (lk1 x' v') y
theorem lk3 (x x' x'' : PySem.Str) (v v' v'' : Value) : (fun y => [(x, v), (x', v'), (x'', v'')].lookup y) = fun y => if y = x then some v else if y = x' then some v' else if y = x'' then some v'' else none := by
  funext y
  by_cases h : y = x
  · subst h; simp [List.lookup]
  · have : (y == x) = false := by simpa using h
    simp only [List.lookup, h, this, if_false]
    exact congrFun (lk2 x' x'' v' v'') y
theorem fr1 {g h : Heap} {L : Addr} {x : PySem.Str} {v : Value} (F : Fr g L h (fun y => [(x, v)].lookup y)) : Fr g L h (fun y => if y = x then some v else none) := lk1 x v ▸ F
theorem fr2 {g h : Heap} {L : Addr} {x x' : PySem.Str} {v v' : Value} (F : Fr g L h (fun y => [(x, v), (x', v')].lookup y)) : Fr g L h (fun y => if y = x then some v else if y = x' then some v' else none) := lk2 x x' v v' ▸ F
theorem fr3 {g h : Heap} {L : Addr} {x x' x'' : PySem.Str} {v v' v'' : Value} (F : Fr g L h (fun y => [(x, v), (x', v'), (x'', v'')].lookup y)) : Fr g L h (fun y => if y = x then some v else if y = x' then some v' else if y = x'' then some v'' else none) := lk3 x x' x'' v v' v'' ▸ F
theorem strs_snoc {x : PySem.Str} {vs : List Value} {ss : List PySem.Str} (h : StrsAre vs (ss ++ [x])) : ∃ ws t, vs = ws ++ [.str x t] ∧ StrsAre ws ss := by
  induction ss generalizing vs with
  | nil =>
    obtain ⟨t, w, e, h'⟩ := StrsAre.cons_inv h
    exact ⟨[], t, by rw [e, StrsAre.nil_inv h']; rfl, .nil⟩
  | cons y ss ih =>
    obtain ⟨t, w, e, h'⟩ := StrsAre.cons_inv h
    obtain ⟨ws, u, e2, h2⟩ := ih h'
    exact ⟨.str y t :: ws, u, by rw [e, e2]; rfl, .cons y t h2⟩
theorem ints_snoc {x : Int} {vs : List Value} {ss : List Int} (h : IntsAre vs (ss ++ [x])) : ∃ ws t, vs = ws ++ [.int x t] ∧ IntsAre ws ss := by
  induction ss generalizing vs with
  | nil =>
    obtain ⟨t, w, e, h'⟩ := IntsAre.cons_inv h
    exact ⟨[], t, by rw [e, IntsAre.nil_inv h']; rfl, .nil⟩
  | cons y ss ih =>
    obtain ⟨t, w, e, h'⟩ := IntsAre.cons_inv h
    obtain ⟨ws, u, e2, h2⟩ := ih h'
    exact ⟨.int y t :: ws, u, by rw [e, e2]; rfl, .cons y t h2⟩
section
variable {prog : Program} {w : World} {A : Around} {E : Value → Shared → Prop} {s : Shared} {h₀ : Heap} {L D : Addr} {m : PySem.Str → Option Value} {news news' : List (Addr × Obj)} {n : Nat}
theorem pop_snoc {ws : List Value} {y : Value} {Q : Value → Shared → Prop} (F : Fr h₀ L s.heap m) (N : News h₀ L s.heap news) (U : Upd D (listOf (ws ++ [y]).toArray n) (listOf ws.toArray (n + 1)) news news')
    (hz : ws.length + 1 ≤ 16777216) (h : ∀ h', Fr h₀ L h' m → News h₀ L h' news' → Q y { s with heap := h' }) : wpAny (model prog w) A (call (.builtin "list.pop") [.ref D]) Q E s :=
  kl_pop F N (kpa_last y ws) U (by rw [sizeLine_eq]; simpa using hz) h
end
theorem sOf_app (a b : List Nat) : sOf a ++ sOf b = sOf (a ++ b) := by
  show PySem.Str.mk _ = PySem.Str.mk _
  simp
theorem sOf_len (a : List Nat) : (sOf a).length = a.length := List.size_toArray ..
theorem item_open {i : Int} (h0 : 0 ≤ i) (h3 : i < 3) : PySem.Txt.item (Str.ofString "([{") i = sOf [opn i.toNat] := by
  have : i = 0 ∨ i = 1 ∨ i = 2 := by omega
  rcases this with rfl | rfl | rfl <;> decide +kernel
theorem item_close {i : Int} (h0 : 0 ≤ i) (h3 : i < 3) : PySem.Txt.item (Str.ofString ")]}") i = sOf [cls i.toNat] := by
  have : i = 0 ∨ i = 1 ∨ i = 2 := by omega
  rcases this with rfl | rfl | rfl <;> decide +kernel
theorem eqvAll_strs : ∀ xs ys : List PySem.Str, PyData.eqvAll (xs.map PyData.str) (ys.map PyData.str) = decide (xs = ys)
  | [], [] => by simp [PyData.eqvAll]
  | [], _ :: _ => by simp [PyData.eqvAll]
  | _ :: _, [] => by simp [PyData.eqvAll]
  | a :: r, b :: t => by
    simp only [List.map_cons, PyData.eqvAll, PyData.eqv, eqvAll_strs r t]
    by_cases h : a = b <;> by_cases h' : r = t <;> simp [h, h']
theorem eqvAll_bools : ∀ xs ys : List Bool, PyData.eqvAll (xs.map PyData.bool) (ys.map PyData.bool) = decide (xs = ys)
  | [], [] => by simp [PyData.eqvAll]
  | [], _ :: _ => by simp [PyData.eqvAll]
  | _ :: _, [] => by simp [PyData.eqvAll]
  | a :: r, b :: t => by
    simp only [List.map_cons, PyData.eqvAll, PyData.eqv, eqvAll_bools r t]
    by_cases h' : r = t <;> cases a <;> cases b <;> simp [h']
theorem strs_canLay : ∀ xs : List PySem.Str, (∀ x ∈ xs, PyData.strOk x = true) → PyData.canLayAll0 (xs.map PyData.str) = true
  | [], _ => rfl
  | x :: r, h => by simp [PyData.canLayAll0, PyData.canLay0, strs_canLay r (fun y hy => h y (.tail _ hy)), h x (.head _)]
theorem strs_depth : ∀ xs : List PySem.Str, PyData.depthAll (xs.map PyData.str) = 0
  | [] => rfl
  | _ :: r => by simp [PyData.depthAll, PyData.depth, strs_depth r]
theorem strs_shaped {xs : List PySem.Str} (h : ∀ x ∈ xs, PyData.strOk x = true) : SeqAt.shaped (.list (xs.map PyData.str)) = true := by
  simp [SeqAt.shaped, PyData.canLay0, PyData.depth, strs_canLay xs h, strs_depth]
theorem sOf_ok {l : List Nat} (h : ∀ c ∈ l, c < 128) : PyData.strOk (sOf l) = true := by
  unfold PyData.strOk
  simp only [List.all_toArray, List.all_eq_true, decide_eq_true_eq]
  intro c hc
  have := h c hc
  omega
theorem cls_lt (k : Nat) : cls k < 128 := by unfold cls; (repeat' split) <;> omega
theorem opn_lt (k : Nat) : opn k < 128 := by unfold opn; (repeat' split) <;> omega
theorem cls_ok (p : List Nat) : ∀ x ∈ p.map (fun k => sOf [cls k]), PyData.strOk x = true := by
  intro x hx
  obtain ⟨k, _, rfl⟩ := List.mem_map.mp hx
  exact sOf_ok (by intro c hc; rw [List.mem_singleton.mp hc]; exact cls_lt k)
theorem nil_ok : ∀ x ∈ ([] : List PySem.Str), PyData.strOk x = true := fun _ h => nomatch h
theorem bools_canLay : ∀ xs : List Bool, PyData.canLayAll0 (xs.map PyData.bool) = true
  | [] => rfl
  | _ :: r => by simp [PyData.canLayAll0, PyData.canLay0, bools_canLay r]
theorem bools_depth : ∀ xs : List Bool, PyData.depthAll (xs.map PyData.bool) = 0
  | [] => rfl
  | _ :: r => by simp [PyData.depthAll, PyData.depth, bools_depth r]
theorem bools_shaped (xs : List Bool) : SeqAt.shaped (.list (xs.map PyData.bool)) = true := by
  simp [SeqAt.shaped, PyData.canLay0, PyData.depth, bools_canLay, bools_depth]
section
variable {prog : Program} {w : World} {A : Around} {E : Value → Shared → Prop} {s : Shared} {a b : Addr} {xs ys : List Value} {ns ms : List PySem.Str} {Q : Value → Shared → Prop}
theorem eq_strs (ha : s.heap.IsList a xs.toArray) (hb : s.heap.IsList b ys.toArray) (hi : StrsAre xs ns) (hj : StrsAre ys ms) (hn : ∀ x ∈ ns, PyData.strOk x = true) (hm : ∀ x ∈ ms, PyData.strOk x = true) (hu : A.units + 64 < cLine) (h : Q (.bool (decide (ns = ms))) s) :
    wpAny (model prog w) A (compareOp .Eq (.ref a) (.ref b)) Q E s :=
  eq_dataH (reads_newData ha hi.carried) (reads_newData hb hj.carried) (strs_shaped hn) (strs_shaped hm) hu (by simp only [PyData.eqv, eqvAll_strs]; exact h)
theorem ne_strs (ha : s.heap.IsList a xs.toArray) (hb : s.heap.IsList b ys.toArray) (hi : StrsAre xs ns) (hj : StrsAre ys ms) (hn : ∀ x ∈ ns, PyData.strOk x = true) (hm : ∀ x ∈ ms, PyData.strOk x = true) (hu : A.units + 64 < cLine) (h : Q (.bool (!decide (ns = ms))) s) :
    wpAny (model prog w) A (compareOp .NotEq (.ref a) (.ref b)) Q E s :=
  ne_dataH (reads_newData ha hi.carried) (reads_newData hb hj.carried) (strs_shaped hn) (strs_shaped hm) hu (by simp only [PyData.eqv, eqvAll_strs]; exact h)
end
/-- the continuation, under a name of its own: the terms of a walk stay small -/
theorem hold {α : Type} {w : World} {E : Value → Shared → Prop} {s : Shared} {prog : Program} {A : Around} {x : Sem α} {Q : α → Shared → Prop} (h : ∀ Q1 : α → Shared → Prop, (∀ v s, Q v s → Q1 v s) → wpAny (model prog w) A x Q1 E s) : wpAny (model prog w) A x Q E s := h Q fun _ _ e => e
/-- both continuations, under names of their own -/
theorem hold2 {α : Type} {w : World} {E : Value → Shared → Prop} {s : Shared} {prog : Program} {A : Around} {x : Sem α} {Q : α → Shared → Prop} (h : ∀ (Q1 : α → Shared → Prop) (E1 : Value → Shared → Prop), (∀ v s, Q v s → Q1 v s) → E = E1 → wpAny (model prog w) A x Q1 E1 s) : wpAny (model prog w) A x Q E s := h Q E (fun _ _ e => e) rfl
/-- the goal, under a name: what is opened before it stands again does not bear it along -/
theorem shut {G : Prop} (h : ∀ P : Prop, (G → P) → P) : G := h G fun g => g
theorem sub_nil {α : Type} {l : List α} : ∀ p ∈ ([] : List α), p ∈ l := fun _ h => nomatch h
theorem sub_cons {α : Type} {a : α} {l l' : List α} (h : a ∈ l') (t : ∀ p ∈ l, p ∈ l') : ∀ p ∈ a :: l, p ∈ l' := List.forall_mem_cons.mpr ⟨h, t⟩
theorem sub_skip {α : Type} {a : α} {l l' : List α} (t : ∀ p ∈ l, p ∈ l') : ∀ p ∈ l, p ∈ a :: l' := fun p h => .tail _ (t p h)
theorem each_nil {α : Type} {P : α → Prop} : ∀ p ∈ ([] : List α), P p := fun _ h => nomatch h
theorem each_cons {α : Type} {P : α → Prop} {a : α} {l : List α} (h : P a) (t : ∀ p ∈ l, P p) : ∀ p ∈ a :: l, P p := List.forall_mem_cons.mpr ⟨h, t⟩
theorem news_sub {g h : Heap} {L : Addr} {l l' : List (Addr × Obj)} (N : News g L h l') (hs : ∀ p ∈ l, p ∈ l') : News g L h l := fun p hp => N p (hs p hp)
section
variable {w : World} {prog : Program} {A : Around}
/-- both continuations under names; the exceptions still pass -/
theorem hold3 {env : Env} {body : List Stmt} {Q : Flow → Shared → Prop} {E : Value → Shared → Prop} {s : Shared} (hE : PassesOwn (model prog w) A env E) (h : ∀ (Q1 : Flow → Shared → Prop) (E1 : Value → Shared → Prop), (∀ v s, Q v s → Q1 v s) → PassesOwn (model prog w) A env E1 → wpAny (model prog w) A (execs body env) Q1 E1 s) : wpAny (model prog w) A (execs body env) Q E s := h Q E (fun _ _ e => e) hE
end
end Mine
end
section
open PySem PySem.W PySem.Calls PyProof.Rows
set_option maxRecDepth 100000
namespace Mine
section
variable {prog : Program} {w : World} {A₀ : Around} {s : Shared} {K : Frag} {base h₀ : Heap} {outer : List Env} {L : Addr} {m mg mb : PySem.Str → Option Value} {news : List (Addr × Obj)} {p : Program} {loose : List PySem.Str} {mean : ExcName → Option Value}
/-- the entry of a def with cells, at a known ghost heap -/
theorem enterK {dp un : Nat} {gd : Option (List Code)} {cn : PySem.Str} {cs : Scope} {a : Addr} {ccd : Value} {cl : List (PySem.Str × Addr)} {Q E : Value → Shared → Prop} {name qual : PySem.Str} {params : Arguments} {body : List Stmt} {scope : Scope} {dV kV doc pm cdv ct oc : Value} {an od : Option Addr} {osl : Array (Option Value)} {f : Addr} {vals : List Value} {binds : List (PySem.Str × Value)}
    (B : Below A₀ base outer h₀) (F : Fr h₀ L s.heap m) (X₀ : K.In h₀) (N : News h₀ L s.heap news) (T : Top p loose mean mg mb h₀) (hke : cs.kind = .function)
    (ho : K.lookup f = some ⟨oc, od, .func (fnOf name qual params body scope dV kV doc pm an cdv ct), osl⟩) (hcd : codeIn K cdv qual = true) (hroom : dp < recursionLimit)
    (hbind : BindsTo s (fnOf name qual params body scope dV kV doc pm an cdv ct) ⟨vals, []⟩ binds) (hkind : (binds.all fun y => scope.names.lookup y.1 == some .local || scope.names.lookup y.1 == some .cell) = true)
    (hnd : ((cellsFrom 0 scope.names []).map (·.1)).Nodup)
    (h : ∀ g L' h₁ tk cells, g = hideAll s.heap (news.map (·.1)) → Fr g L' h₁ (bindL (envOfC qual scope L' f cdv).kindOf binds fun _ => none) → News g L' h₁ (cells ++ news) →
      CellsAre (bindC (envOfC qual scope L' f cdv).kindOf binds fun _ => none) (cellsFrom (L' + 1) scope.names []) cells → (∀ p ∈ news, p.1 < L') → Below (ktrTop dp un gd cn cs L a ccd cl outer) base (envX cn cs L a ccd cl :: outer) g → K.In g → Top p loose mean mg mb g →
      wpAny (model prog w) (ktrTop (dp + 1) (un + 3) gd qual scope L' f cdv (cellsFrom (L' + 1) scope.names []) (envX cn cs L a ccd cl :: outer)) (execs body (envX qual scope L' f cdv (cellsFrom (L' + 1) scope.names [])))
        (fun fl s' => LeaveK h₀ L m g (fun r s' => match r with | .ok (.ret v) => Q v s' | .ok _ => False | .error e => E e s') (match fl with | .ret v => v | _ => .none) s')
        (fun e s' => wpAny (model prog w) (ktrTop (dp + 1) (un + 3) gd qual scope L' f cdv (cellsFrom (L' + 1) scope.names []) (envX cn cs L a ccd cl :: outer)) (leaving (envX qual scope L' f cdv (cellsFrom (L' + 1) scope.names [])) e) (fun _ s'' => E e s'') (fun e' s'' => E e' s'') s')
        { s with heap := h₁, toks := tk })
    (hco : scope.isCoroutine = false) (hgen : scope.isGenerator = false) (hk : scope.kind = .function) : wpAny (model prog w) (ktrTop dp un gd cn cs L a ccd cl outer) (call (.ref f) vals) Q E s := by
  refine wpAny_call ?_
  obtain ⟨FG, BG, st, lv⟩ := groundX (A := ktrTop dp un gd cn cs L a ccd cl outer) (env := envX cn cs L a ccd cl) (R := fun r s' => match r with | .ok (.ret v) => Q v s' | .ok _ => False | .error e => E e s') B F N rfl rfl hke
  refine codeAny_call_function hroom (X₀.keeps F.keep f _ ho) rfl hco hgen rfl (codeRec_of (X₀.keeps F.keep) hcd) (hbind _ _ _ _ ?_)
  refine wpAny_newFunctionEnv_cells hk (kindsX hkind _) fun env' he s' x => ?_
  subst he
  refine ⟨(T.nolimit.keeps F.keep).keeps x.toInCall.keep, codeAny_func ?_⟩
  obtain ⟨h₁, tk, rfl, _⟩ := x.done
  have hk₁ := x.toInCall.keep
  obtain ⟨cells, NC, Y⟩ := Cl.news (h₀ := s.heap) (Nat.le_refl _) fun n c hm => ⟨x.cell n c (lookup_of_mem_nodup (cellsFrom_names scope.names 0 (s.heap.objs.size + 1) [] [] rfl ▸ hnd) hm), x.above n c hm⟩
  refine wpAny_mono (h _ s.heap.objs.size h₁ tk cells rfl ⟨x.toInCall.ns, fun b o e => hk₁ b o (of_hideAll _ e), Nat.le_of_eq (hideAll_size _ _)⟩ (fun p hp => ?_) Y (fun p hp => Heap.lt_size (N p hp).1) BG (X₀.keeps st) (T.keeps st)) (fun fl s' hl => lv _ _ hl) fun _ _ y => y
  rcases List.mem_append.mp hp with hp | hp
  · refine ⟨(NC p hp).1, (NC p hp).2.1, ?_⟩
    cases q : (hideAll s.heap (news.map (·.1))).get? p.1 with
    | none => rfl
    | some o => have := of_hideAll _ q; rw [(NC p hp).2.2] at this; cases this
  · exact ⟨hk₁ _ _ (N p hp).1, Nat.ne_of_lt (Heap.lt_size (N p hp).1), hideAll_none _ (List.mem_map_of_mem hp)⟩
end
end Mine
end
section
set_option maxRecDepth 100000
namespace Mine
open PySem PySem.Sre
/-- a state of the matching machine, no groups, no loops -/
def St (code text : Array Nat) (lim ls start pc pos handed : Nat) (om : Bool) (fs : List Sre.Frame) (wt : Nat) (ans : Option Bool) (seen : Sre.Seen) : Sre.M :=
  { code := code, text := text, lim := lim, start := start, lastStart := ls, pc := pc, pos := pos, handed := handed, outermost := om, marks := #[], frames := fs, weight := wt, answer := ans, seen := seen }
def Fm (w : Sre.Wait) (pc pos : Nat) (om : Bool) (k : Sre.Kept) : Sre.Frame := { wait := w, pc := pc, pos := pos, outermost := om, kept := k }
def K0 : Sre.Kept := {}
/-- n turns of the machine lead from m to m' -/
def Go (n : Nat) (m m' : Sre.M) : Prop := m.runFor n = m'
theorem runFor_done : ∀ (n : Nat) (m : Sre.M), m.outcome.isSome = true → m.runFor n = m
  | 0, _, _ => rfl
  | n + 1, m, h => by simp [Sre.M.runFor, h]
theorem runFor_add : ∀ (a b : Nat) (m : Sre.M), m.runFor (a + b) = (m.runFor a).runFor b
  | 0, b, m => by simp [Sre.M.runFor]
  | a + 1, b, m => by
    rw [Nat.succ_add]
    by_cases h : m.outcome.isSome = true
    · rw [runFor_done _ _ h, runFor_done _ _ h, runFor_done _ _ h]
    · simp only [Sre.M.runFor, h, Bool.false_eq_true, if_false]
      exact runFor_add a b _
theorem Go.trans {a b : Nat} {m m' m'' : Sre.M} (h : Go a m m') (h' : Go b m' m'') : Go (a + b) m m'' := by
  unfold Go at *; rw [runFor_add, h, h']
theorem Go.one {m : Sre.M} (h : m.outcome = none) : Go 1 m m.step := by
  unfold Go; simp [Sre.M.runFor, h]
section
variable {code text : Array Nat} {lim ls start pc pos handed : Nat} {om : Bool} {fs : List Sre.Frame} {wt : Nat} {seen : Sre.Seen}
theorem go_lit_yes {c : Nat} (h0 : code.getD pc 0 = 16) (h1 : code.getD (pc + 1) 0 = c) (hz : pc < code.size) (hp : pos < lim) (hc : text.getD pos 0 = c) :
    Go 1 (St code text lim ls start pc pos handed om fs wt none seen) (St code text lim ls start (pc + 2) (pos + 1) handed om fs wt none (seen.add 16)) := by
  refine Eq.trans (Go.one rfl) ?_
  have ho : Sre.ops[16]? = some .LITERAL := rfl
  simp only [St, Sre.M.step, Option.isSome_none, Bool.false_eq_true, if_false, hz, if_true, Sre.M.exec, Sre.M.word, Nat.add_zero, h0, ho, Sre.accepts, h1, Nat.not_le.mpr hp, ge_iff_le, hc, beq_self_eq_true, Sre.itemWidth]
theorem go_lit_no {c : Nat} (h0 : code.getD pc 0 = 16) (h1 : code.getD (pc + 1) 0 = c) (hz : pc < code.size) (hc : ¬ (pos < lim ∧ text.getD pos 0 = c)) :
    Go 1 (St code text lim ls start pc pos handed om fs wt none seen) (St code text lim ls start pc pos handed om fs wt (some false) (seen.add 16)) := by
  refine Eq.trans (Go.one rfl) ?_
  have ho : Sre.ops[16]? = some .LITERAL := rfl
  by_cases hp : pos < lim
  · have hne : (text.getD pos 0 == c) = false := by
      have : text.getD pos 0 ≠ c := fun e => hc ⟨hp, e⟩
      simpa using this
    simp only [St, Sre.M.step, Option.isSome_none, Bool.false_eq_true, if_false, hz, if_true, Sre.M.exec, Sre.M.word, Nat.add_zero, h0, ho, Sre.accepts, h1, Nat.not_le.mpr hp, ge_iff_le, hne, Sre.M.say]
  · simp only [St, Sre.M.step, Option.isSome_none, Bool.false_eq_true, if_false, hz, if_true, Sre.M.exec, Sre.M.word, Nat.add_zero, h0, ho, Nat.le_of_not_lt hp, ge_iff_le, Sre.M.say]
theorem go_jump {k : Nat} (h0 : code.getD pc 0 = 15) (h1 : code.getD (pc + 1) 0 = k) (hz : pc < code.size) :
    Go 1 (St code text lim ls start pc pos handed om fs wt none seen) (St code text lim ls start (pc + 1 + k) pos handed om fs wt none (seen.add 15)) := by
  refine Eq.trans (Go.one rfl) ?_
  have ho : Sre.ops[15]? = some .JUMP := rfl
  simp only [St, Sre.M.step, Option.isSome_none, Bool.false_eq_true, if_false, hz, if_true, Sre.M.exec, Sre.M.word, Nat.add_zero, h0, ho, h1]
theorem go_success (h0 : code.getD pc 0 = 1) (hz : pc < code.size) :
    Go 1 (St code text lim ls start pc pos handed om fs wt none seen) (St code text lim ls start pc pos pos om fs wt (some true) (seen.add 1)) := by
  refine Eq.trans (Go.one rfl) ?_
  have ho : Sre.ops[1]? = some .SUCCESS := rfl
  simp only [St, Sre.M.step, Option.isSome_none, Bool.false_eq_true, if_false, hz, if_true, Sre.M.exec, Sre.M.word, Nat.add_zero, h0, ho, Bool.false_and, Bool.or_self, Bool.and_false, Sre.M.say]
theorem go_at_yes (h0 : code.getD pc 0 = 6) (h1 : code.getD (pc + 1) 0 = 1) (hz : pc < code.size) (hb : pos = 0 ∨ text.getD (pos - 1) 0 = 10) :
    Go 1 (St code text lim ls start pc pos handed om fs wt none seen) (St code text lim ls start (pc + 2) pos handed om fs wt none ((seen.add 6).add 44)) := by
  refine Eq.trans (Go.one rfl) ?_
  have ho : Sre.ops[6]? = some .AT := rfl
  have hb' : (pos == 0 || text.getD (pos - 1) 0 == 10) = true := by simpa using hb
  simp only [St, Sre.M.step, Option.isSome_none, Bool.false_eq_true, if_false, hz, if_true, Sre.M.exec, Sre.M.word, Nat.add_zero, h0, ho, h1, Sre.M.isAt, hb']
theorem go_at_no (h0 : code.getD pc 0 = 6) (h1 : code.getD (pc + 1) 0 = 1) (hz : pc < code.size) (hb : ¬ (pos = 0 ∨ text.getD (pos - 1) 0 = 10)) :
    Go 1 (St code text lim ls start pc pos handed om fs wt none seen) (St code text lim ls start pc pos handed om fs wt (some false) ((seen.add 6).add 44)) := by
  refine Eq.trans (Go.one rfl) ?_
  have ho : Sre.ops[6]? = some .AT := rfl
  have hb' : (pos == 0 || text.getD (pos - 1) 0 == 10) = false := by
    cases h : (pos == 0 || text.getD (pos - 1) 0 == 10)
    · rfl
    · exact absurd (by simpa using h) hb
  simp only [St, Sre.M.step, Option.isSome_none, Bool.false_eq_true, if_false, hz, if_true, Sre.M.exec, Sre.M.word, Nat.add_zero, h0, ho, h1, Sre.M.isAt, hb', Sre.M.say]
theorem go_branch {k : Nat} (h0 : code.getD pc 0 = 7) (h1 : code.getD (pc + 1) 0 = k) (hk : (k == 0) = false) (hz : pc < code.size) (hw : wt < 16777216) :
    Go 1 (St code text lim ls start pc pos handed om fs wt none seen) (St code text lim ls start (pc + 1 + 1) pos pos om (Fm .nextBranch (pc + 1) pos om K0 :: fs) (wt + 1) none (seen.add 7)) := by
  refine Eq.trans (Go.one rfl) ?_
  have ho : Sre.ops[7]? = some .BRANCH := rfl
  have hw' : ¬ (wt + 1 > 16777216) := by omega
  simp only [St, Sre.M.step, Option.isSome_none, Bool.false_eq_true, if_false, hz, if_true, Sre.M.exec, Sre.M.word, Nat.add_zero, h0, ho, Sre.M.alternative, h1, hk, Sre.M.attempt, Sre.M.keep, Sre.M.frame, List.size_toArray, List.length_nil, hw']
  rfl
theorem go_look (h0 : code.getD pc 0 = 5) (h1 : code.getD (pc + 2) 0 = 0) (hz : pc < code.size) (hw : wt < 16777216) :
    Go 1 (St code text lim ls start pc pos handed om fs wt none seen) (St code text lim ls start (pc + 3) pos pos false (Fm .lookNot pc pos om K0 :: fs) (wt + 1) none (seen.add 5)) := by
  refine Eq.trans (Go.one rfl) ?_
  have ho : Sre.ops[5]? = some .ASSERT_NOT := rfl
  have hw' : ¬ (wt + 1 > 16777216) := by omega
  simp only [St, Sre.M.step, Option.isSome_none, Bool.false_eq_true, if_false, hz, if_true, Sre.M.exec, Sre.M.word, Nat.add_zero, h0, ho, h1, Nat.not_lt_zero, Sre.M.attempt, Sre.M.keep, Sre.M.frame, List.size_toArray, List.length_nil, hw', Bool.and_false, Nat.sub_zero]
  rfl
/-- an answer comes back to the frame that waits -/
theorem go_back_yes {w : Sre.Wait} {fpc fpos : Nat} {fom : Bool} (hw : w = .nextBranch ∨ w = .nextStart) :
    Go 1 (St code text lim ls start pc pos handed om (Fm w fpc fpos fom K0 :: fs) (wt + 1) (some true) seen) (St code text lim ls start fpc fpos handed fom fs wt (some true) seen) := by
  refine Eq.trans (Go.one rfl) ?_
  rcases hw with rfl | rfl <;> rfl
theorem go_back_branch {k : Nat} {fpc fpos : Nat} {fom : Bool} (h1 : code.getD fpc 0 = k) (hk : (code.getD (fpc + k) 0 == 0) = false) (hw : wt < 16777216) :
    Go 1 (St code text lim ls start pc pos handed om (Fm .nextBranch fpc fpos fom K0 :: fs) (wt + 1) (some false) seen) (St code text lim ls start (fpc + k + 1) fpos fpos fom (Fm .nextBranch (fpc + k) fpos fom K0 :: fs) (wt + 1) none seen) := by
  refine Eq.trans (Go.one rfl) ?_
  have hw' : ¬ (wt + 1 > 16777216) := by omega
  simp only [St, Sre.M.step, Option.isSome_none, Bool.false_eq_true, if_false, Fm, K0, Sre.M.resume, Sre.M.putBack, h1, Sre.M.alternative, hk, Sre.M.attempt, Sre.M.frame, List.size_toArray, List.length_nil, Nat.add_zero, Nat.add_sub_cancel, hw']
theorem go_back_look_no {k : Nat} {fpc fpos : Nat} {fom : Bool} (h1 : code.getD (fpc + 1) 0 = k) :
    Go 1 (St code text lim ls start pc pos handed om (Fm .lookNot fpc fpos fom K0 :: fs) (wt + 1) (some false) seen) (St code text lim ls start (fpc + 1 + k) fpos handed fom fs wt none seen) := by
  refine Eq.trans (Go.one rfl) ?_
  simp only [St, Sre.M.step, Option.isSome_none, Bool.false_eq_true, if_false, Fm, K0, Sre.M.resume, Sre.M.putBack, Sre.M.word, h1, List.size_toArray, List.length_nil, Nat.add_zero, Nat.add_sub_cancel]
theorem go_end {b : Bool} :
    Go 1 (St code text lim ls start pc pos handed om [] wt (some b) seen) { St code text lim ls start pc pos handed om [] wt (some b) seen with outcome := some (if b = true then .matched else .failed) } := Go.one rfl
end

abbrev code1 : Array Nat := #[14, 4, 0, 1, 1, 6, 1, 16, 46, 1]
abbrev code2 : Array Nat := #[14, 9, 4, 1, 2, 16, 10, 16, 13, 0, 7, 7, 16, 13, 16, 10, 15, 18, 5, 16, 10, 15, 13, 11, 16, 13, 5, 5, 0, 16, 10, 1, 15, 2, 0, 1]
/-- what a search from p on ends with -/
def Found (code text : Array Nat) (p : Nat) (r : Option (Nat × Nat)) : Prop :=
  ∃ n, n ≤ 8 * (text.size + 2) ∧ match r with
    | some (s, e) => ((Sre.forSearch code text 0 p text.size false).runFor n).outcome = some .matched ∧ ((Sre.forSearch code text 0 p text.size false).runFor n).start = s ∧ ((Sre.forSearch code text 0 p text.size false).runFor n).handed = e
    | none => ((Sre.forSearch code text 0 p text.size false).runFor n).outcome = some .failed

section
variable {text : Array Nat} {lim ls start pos handed : Nat} {om : Bool} {fs : List Sre.Frame} {wt : Nat} {seen : Sre.Seen}
/-- the second pattern at a feed or a return: the roads through the machine -/
theorem go2_crlf (hw : wt < 16777000) (h1 : pos + 1 < lim) (h2 : text.getD pos 0 = 13) (h3 : text.getD (pos + 1) 0 = 10) :
    ∃ n seen', n ≤ 14 ∧ Go n (St code2 text lim ls start 10 pos handed om fs wt none seen) (St code2 text lim ls start 11 pos (pos + 2) om fs wt (some true) seen') := by
  have a1 := go_branch (code := code2) (text := text) (lim := lim) (ls := ls) (start := start) (pc := 10) (pos := pos) (handed := handed) (om := om) (fs := fs) (wt := wt) (seen := seen) (k := 7) rfl rfl rfl (by decide) (by omega)
  have a2 := a1.trans (go_lit_yes (pc := 12) (c := 13) rfl rfl (by decide) (by omega) h2)
  have a3 := a2.trans (go_lit_yes (pc := 14) (c := 10) rfl rfl (by decide) (by omega) h3)
  have a4 := a3.trans (go_jump (pc := 16) (k := 18) rfl rfl (by decide))
  have a5 := a4.trans (go_success (pc := 35) rfl (by decide))
  have a6 := a5.trans (go_back_yes (.inl rfl))
  exact ⟨_, _, by decide, a6⟩
theorem go2_lf (hw : wt < 16777000) (h1 : pos < lim) (h2 : text.getD pos 0 = 10) :
    ∃ n seen', n ≤ 14 ∧ Go n (St code2 text lim ls start 10 pos handed om fs wt none seen) (St code2 text lim ls start 18 pos (pos + 1) om fs wt (some true) seen') := by
  have a1 := go_branch (code := code2) (text := text) (lim := lim) (ls := ls) (start := start) (pc := 10) (pos := pos) (handed := handed) (om := om) (fs := fs) (wt := wt) (seen := seen) (k := 7) rfl rfl rfl (by decide) (by omega)
  have a2 := a1.trans (go_lit_no (pc := 12) (c := 13) rfl rfl (by decide) (by rintro ⟨_, e⟩; rw [h2] at e; cases e))
  have a3 := a2.trans (go_back_branch (k := 7) rfl rfl (by omega))
  have a4 := a3.trans (go_lit_yes (pc := 19) (c := 10) rfl rfl (by decide) h1 h2)
  have a5 := a4.trans (go_jump (pc := 21) (k := 13) rfl rfl (by decide))
  have a6 := a5.trans (go_success (pc := 35) rfl (by decide))
  have a7 := a6.trans (go_back_yes (.inl rfl))
  exact ⟨_, _, by decide, a7⟩
theorem go2_cr (hw : wt < 16777000) (h1 : pos < lim) (h2 : text.getD pos 0 = 13) (h3 : ¬ (pos + 1 < lim ∧ text.getD (pos + 1) 0 = 10)) :
    ∃ n seen', n ≤ 14 ∧ Go n (St code2 text lim ls start 10 pos handed om fs wt none seen) (St code2 text lim ls start 23 pos (pos + 1) om fs wt (some true) seen') := by
  have a1 := go_branch (code := code2) (text := text) (lim := lim) (ls := ls) (start := start) (pc := 10) (pos := pos) (handed := handed) (om := om) (fs := fs) (wt := wt) (seen := seen) (k := 7) rfl rfl rfl (by decide) (by omega)
  have a2 := a1.trans (go_lit_yes (pc := 12) (c := 13) rfl rfl (by decide) h1 h2)
  have a3 := a2.trans (go_lit_no (pc := 14) (c := 10) rfl rfl (by decide) h3)
  have a4 := a3.trans (go_back_branch (k := 7) rfl rfl (by omega))
  have a5 := a4.trans (go_lit_no (pc := 19) (c := 10) rfl rfl (by decide) (by rintro ⟨_, e⟩; rw [h2] at e; cases e))
  have a6 := a5.trans (go_back_branch (k := 5) rfl rfl (by omega))
  have a7 := a6.trans (go_lit_yes (pc := 24) (c := 13) rfl rfl (by decide) h1 h2)
  have a8 := a7.trans (go_look (pc := 26) rfl rfl (by decide) (by omega))
  have a9 := a8.trans (go_lit_no (pc := 29) (c := 10) rfl rfl (by decide) h3)
  have a10 := a9.trans (go_back_look_no (k := 5) rfl)
  have a11 := a10.trans (go_jump (pc := 32) (k := 2) rfl rfl (by decide))
  have a12 := a11.trans (go_success (pc := 35) rfl (by decide))
  have a13 := a12.trans (go_back_yes (.inl rfl))
  exact ⟨_, _, by decide, a13⟩
theorem inset2 (c : Nat) (seen : Sre.Seen) : ∃ seen', Sre.inSet code2 c code2.size 5 true seen = .ok (decide (c = 10 ∨ c = 13), seen') := by
  have ho : Sre.ops[16]? = some .LITERAL := rfl
  have h9 : Sre.ops[0]? = some .FAILURE := rfl
  show ∃ seen', Sre.inSet code2 c (33 + 1 + 1 + 1) 5 true seen = _
  by_cases h1 : c = 10
  · subst h1; exact ⟨_, rfl⟩
  · by_cases h2 : c = 13
    · subst h2; exact ⟨_, rfl⟩
    · refine ⟨(((seen.add 16).add 16).add 0), ?_⟩
      have e1 : (c == 10) = false := by simpa using h1
      have e2 : (c == 13) = false := by simpa using h2
      have g5 : code2.getD 5 0 = 16 := rfl
      have g6 : code2.getD 6 0 = 10 := rfl
      have g7 : code2.getD 7 0 = 16 := rfl
      have g8 : code2.getD 8 0 = 13 := rfl
      have g9 : code2.getD 9 0 = 0 := rfl
      simp only [Sre.inSet, Nat.add_zero, Nat.reduceAdd, g5, g6, g7, g8, g9, ho, h9, e1, e2, Bool.false_eq_true, if_false, h1, h2, or_self, decide_false, Bool.not_true]
end
theorem admitted2 (m : Sre.M) (hc : m.code = code2) : ∀ (fuel s : Nat) (seen : Sre.Seen), m.lim < s + fuel → ∃ seen',
    ((∃ q, s ≤ q ∧ q < m.lim ∧ (m.text.getD q 0 = 10 ∨ m.text.getD q 0 = 13) ∧ (∀ r, s ≤ r → r < q → ¬ (m.text.getD r 0 = 10 ∨ m.text.getD r 0 = 13)) ∧ Sre.M.admitted m fuel s seen = .ok (some q, seen')) ∨
     ((∀ r, s ≤ r → r < m.lim → ¬ (m.text.getD r 0 = 10 ∨ m.text.getD r 0 = 13)) ∧ Sre.M.admitted m fuel s seen = .ok (none, seen')))
  | 0, s, seen, h => ⟨seen, .inr ⟨fun r h1 h2 => absurd h2 (by omega), rfl⟩⟩
  | fuel + 1, s, seen, h => by
    by_cases hs : s ≥ m.lim
    · exact ⟨seen, .inr ⟨fun r h1 h2 => absurd h2 (by omega), by simp [Sre.M.admitted, hs]⟩⟩
    · obtain ⟨seen1, e1⟩ := inset2 (m.text.getD s 0) seen
      rw [← hc] at e1
      by_cases hq : m.text.getD s 0 = 10 ∨ m.text.getD s 0 = 13
      · refine ⟨seen1, .inl ⟨s, Nat.le_refl _, by omega, hq, fun r h1 h2 => absurd h2 (by omega), ?_⟩⟩
        rw [decide_eq_true hq] at e1
        simp only [Sre.M.admitted, hs, if_false, e1]
      · rw [decide_eq_false hq] at e1
        obtain ⟨seen2, h2⟩ := admitted2 m hc fuel (s + 1) seen1 (by omega)
        refine ⟨seen2, ?_⟩
        have e : Sre.M.admitted m (fuel + 1) s seen = Sre.M.admitted m fuel (s + 1) seen1 := by simp only [Sre.M.admitted, hs, if_false, e1]
        rw [e]
        rcases h2 with ⟨q, a, b, c, d, e⟩ | ⟨a, b⟩
        · refine .inl ⟨q, by omega, b, c, fun r h1 h2 => ?_, e⟩
          rcases Nat.eq_or_lt_of_le h1 with rfl | h1
          · exact hq
          · exact d r h1 h2
        · refine .inr ⟨fun r h1 h2 => ?_, b⟩
          rcases Nat.eq_or_lt_of_le h1 with rfl | h1
          · exact hq
          · exact a r h1 h2
theorem search2 (text : Array Nat) (p : Nat) (hp : p < text.size) : ∃ seen, Sre.forSearch code2 text 0 p text.size false = Sre.M.attemptFrom (St code2 text text.size text.size p 10 p p true [] 0 none seen) p true := by
  refine ⟨({} : Sre.Seen).add 14, ?_⟩
  unfold Sre.forSearch
  have hh : Sre.header code2 = (1, 10) := rfl
  have h1 : ¬ ((p > text.size || text.size - p < 1) = true) := by simp; omega
  simp only [hh]
  rw [if_neg h1]
  rfl
theorem search2_end (text : Array Nat) (p : Nat) (hp : ¬ p < text.size) : Found code2 text p none := by
  refine ⟨1, by omega, ?_⟩
  unfold Sre.forSearch
  have hh : Sre.header code2 = (1, 10) := rfl
  have h1 : (p > text.size || text.size - p < 1) = true := by simp; omega
  simp only [hh]
  rw [if_pos h1]
  rfl
theorem finish_yes {code text : Array Nat} {n lim ls start pc pos handed fpc fpos : Nat} {om fom : Bool} {m : Sre.M} {seen : Sre.Seen}
    (h : Go n m (St code text lim ls start pc pos handed om [Fm .nextStart fpc fpos fom K0] 1 (some true) seen)) :
    (m.runFor (n + 2)).outcome = some .matched ∧ (m.runFor (n + 2)).start = start ∧ (m.runFor (n + 2)).handed = handed := by
  have := (h.trans (go_back_yes (wt := 0) (.inr rfl))).trans go_end
  unfold Go at this
  rw [this]
  exact ⟨rfl, rfl, rfl⟩
/-- the second pattern's next place -/
theorem found2 (text : Array Nat) (p : Nat) :
    ((∀ r, p ≤ r → r < text.size → ¬ (text.getD r 0 = 10 ∨ text.getD r 0 = 13)) ∧ Found code2 text p none) ∨
    ∃ q e, p ≤ q ∧ q < text.size ∧ (∀ r, p ≤ r → r < q → ¬ (text.getD r 0 = 10 ∨ text.getD r 0 = 13)) ∧ (text.getD q 0 = 10 ∨ text.getD q 0 = 13) ∧
      e = (if text.getD q 0 = 13 ∧ q + 1 < text.size ∧ text.getD (q + 1) 0 = 10 then q + 2 else q + 1) ∧ Found code2 text p (some (q, e)) := by
  by_cases hp : p < text.size
  · obtain ⟨seen, hs⟩ := search2 text p hp
    have hset : Sre.M.hasFirstSet (St code2 text text.size text.size p 10 p p true [] 0 none seen) = true := rfl
    obtain ⟨seen', h | h⟩ := admitted2 (St code2 text text.size text.size p 10 p p true [] 0 none seen) rfl (text.size + 1 - p) p seen (by show text.size < _; omega)
    · obtain ⟨q, a, b, c, d, e⟩ := h
      refine .inr ⟨q, _, a, b, d, c, rfl, ?_⟩
      have hm : Sre.forSearch code2 text 0 p text.size false = St code2 text text.size text.size q 10 q q true [Fm .nextStart 10 q true K0] 1 none seen' := by
        rw [hs]
        unfold Sre.M.attemptFrom
        rw [hset]
        have e' : Sre.M.admitted (St code2 text text.size text.size p 10 p p true [] 0 none seen) ((St code2 text text.size text.size p 10 p p true [] 0 none seen).lim + 1 - p) p (St code2 text text.size text.size p 10 p p true [] 0 none seen).seen = .ok (some q, seen') := e
        simp only [Bool.not_true, Bool.false_eq_true, if_false, e']
        rfl
      unfold Found
      rw [hm]
      by_cases h1 : text.getD q 0 = 13
      · by_cases h2 : q + 1 < text.size ∧ text.getD (q + 1) 0 = 10
        · obtain ⟨n, s2, hn, hg⟩ := go2_crlf (text := text) (lim := text.size) (ls := text.size) (start := q) (handed := q) (om := true) (fs := [Fm .nextStart 10 q true K0]) (wt := 1) (seen := seen') (by omega) h2.1 h1 h2.2
          refine ⟨n + 2, by omega, ?_⟩
          rw [if_pos ⟨h1, h2⟩]
          exact finish_yes hg
        · obtain ⟨n, s2, hn, hg⟩ := go2_cr (text := text) (lim := text.size) (ls := text.size) (start := q) (handed := q) (om := true) (fs := [Fm .nextStart 10 q true K0]) (wt := 1) (seen := seen') (by omega) b h1 h2
          refine ⟨n + 2, by omega, ?_⟩
          rw [if_neg (fun x => h2 x.2)]
          exact finish_yes hg
      · have h10 : text.getD q 0 = 10 := c.resolve_right h1
        obtain ⟨n, s2, hn, hg⟩ := go2_lf (text := text) (lim := text.size) (ls := text.size) (start := q) (handed := q) (om := true) (fs := [Fm .nextStart 10 q true K0]) (wt := 1) (seen := seen') (by omega) b h10
        refine ⟨n + 2, by omega, ?_⟩
        rw [if_neg (fun x => h1 x.1)]
        exact finish_yes hg
    · obtain ⟨a, b⟩ := h
      refine .inl ⟨a, ?_⟩
      refine ⟨1, by omega, ?_⟩
      rw [hs]
      unfold Sre.M.attemptFrom
      rw [hset]
      have e' : Sre.M.admitted (St code2 text text.size text.size p 10 p p true [] 0 none seen) ((St code2 text text.size text.size p 10 p p true [] 0 none seen).lim + 1 - p) p (St code2 text text.size text.size p 10 p p true [] 0 none seen).seen = .ok (none, seen') := b
      simp only [Bool.not_true, Bool.false_eq_true, if_false, e']
      rfl
  · exact .inl ⟨fun r h1 h2 => absurd h2 (by omega), search2_end text p hp⟩
theorem search1 (text : Array Nat) (p : Nat) (hp : p < text.size) : ∃ seen, Sre.forSearch code1 text 0 p text.size false = St code1 text text.size text.size p 5 p p true [Fm .nextStart 5 p true K0] 1 none seen := by
  refine ⟨({} : Sre.Seen).add 14, ?_⟩
  unfold Sre.forSearch
  have hh : Sre.header code1 = (1, 5) := rfl
  have h1 : ¬ ((p > text.size || text.size - p < 1) = true) := by simp; omega
  simp only [hh]
  rw [if_neg h1]
  rfl
theorem search1_end (text : Array Nat) (p : Nat) (hp : ¬ p < text.size) : Found code1 text p none := by
  refine ⟨1, by omega, ?_⟩
  unfold Sre.forSearch
  have hh : Sre.header code1 = (1, 5) := rfl
  have h1 : (p > text.size || text.size - p < 1) = true := by simp; omega
  simp only [hh]
  rw [if_pos h1]
  rfl
theorem go_next {text : Array Nat} {lim ls start pc pos handed q : Nat} {om fom : Bool} {seen : Sre.Seen} (hq : q < ls) :
    Go 1 (St code1 text lim ls start pc pos handed om [Fm .nextStart 5 q fom K0] 1 (some false) seen) (St code1 text lim ls (q + 1) 5 (q + 1) (q + 1) false [Fm .nextStart 5 (q + 1) false K0] 1 none seen) := by
  refine Eq.trans (Go.one rfl) ?_
  simp only [St, Sre.M.step, Option.isSome_none, Bool.false_eq_true, if_false, Fm, K0, Sre.M.resume, hq, if_true]
  rfl
theorem go_stop {text : Array Nat} {lim ls start pc pos handed q : Nat} {om fom : Bool} {seen : Sre.Seen} (hq : ¬ q < ls) :
    ((St code1 text lim ls start pc pos handed om [Fm .nextStart 5 q fom K0] 1 (some false) seen).runFor 2).outcome = some .failed := by
  have h : Go 1 (St code1 text lim ls start pc pos handed om [Fm .nextStart 5 q fom K0] 1 (some false) seen) (St code1 text lim ls start 5 q handed fom [] 0 (some false) seen) := by
    refine Eq.trans (Go.one rfl) ?_
    simp only [St, Sre.M.step, Option.isSome_none, Bool.false_eq_true, if_false, Fm, K0, Sre.M.resume, hq, Sre.M.say]
    rfl
  have := h.trans go_end
  unfold Go at this
  rw [this]
  rfl
abbrev hit1 (text : Array Nat) (q : Nat) : Prop := (q = 0 ∨ text.getD (q - 1) 0 = 10) ∧ text.getD q 0 = 46
theorem run1 (text : Array Nat) : ∀ (k q : Nat) (om : Bool) (seen : Sre.Seen), text.size = q + k →
    ((∀ r, q ≤ r → r < text.size → ¬ hit1 text r) ∧ ∃ n, n ≤ 4 * k + 4 ∧ ((St code1 text text.size text.size q 5 q q om [Fm .nextStart 5 q om K0] 1 none seen).runFor n).outcome = some .failed) ∨
    ∃ s, q ≤ s ∧ s < text.size ∧ (∀ r, q ≤ r → r < s → ¬ hit1 text r) ∧ hit1 text s ∧ ∃ n, n ≤ 4 * k + 5 ∧
      ((St code1 text text.size text.size q 5 q q om [Fm .nextStart 5 q om K0] 1 none seen).runFor n).outcome = some .matched ∧ ((St code1 text text.size text.size q 5 q q om [Fm .nextStart 5 q om K0] 1 none seen).runFor n).start = s ∧
      ((St code1 text text.size text.size q 5 q q om [Fm .nextStart 5 q om K0] 1 none seen).runFor n).handed = s + 1
  | k, q, om, seen, hk => by
    -- the first looks
    have fail : ¬ (q < text.size ∧ hit1 text q) → ∃ n pc seen', n ≤ 2 ∧ Go n (St code1 text text.size text.size q 5 q q om [Fm .nextStart 5 q om K0] 1 none seen) (St code1 text text.size text.size q pc q q om [Fm .nextStart 5 q om K0] 1 (some false) seen') := by
      intro hn
      by_cases ha : q = 0 ∨ text.getD (q - 1) 0 = 10
      · have a1 := go_at_yes (code := code1) (text := text) (lim := text.size) (ls := text.size) (start := q) (pc := 5) (pos := q) (handed := q) (om := om) (fs := [Fm .nextStart 5 q om K0]) (wt := 1) (seen := seen) rfl rfl (by decide) ha
        have a2 := a1.trans (go_lit_no (pc := 7) (c := 46) rfl rfl (by decide) (fun x => hn ⟨x.1, ha, x.2⟩))
        exact ⟨_, _, _, by decide, a2⟩
      · have a1 := go_at_no (code := code1) (text := text) (lim := text.size) (ls := text.size) (start := q) (pc := 5) (pos := q) (handed := q) (om := om) (fs := [Fm .nextStart 5 q om K0]) (wt := 1) (seen := seen) rfl rfl (by decide) ha
        exact ⟨_, _, _, by decide, a1⟩
    match k, hk with
    | 0, hk =>
      obtain ⟨n, pc, s2, hn, hg⟩ := fail (by omega)
      refine .inl ⟨fun r h1 h2 => absurd h2 (by omega), n + 2, by omega, ?_⟩
      rw [runFor_add, show _ = _ from hg]
      exact go_stop (by omega)
    | k + 1, hk =>
      by_cases hh : hit1 text q
      · refine .inr ⟨q, Nat.le_refl _, by omega, fun r h1 h2 => absurd h2 (by omega), hh, ?_⟩
        have a1 := go_at_yes (code := code1) (text := text) (lim := text.size) (ls := text.size) (start := q) (pc := 5) (pos := q) (handed := q) (om := om) (fs := [Fm .nextStart 5 q om K0]) (wt := 1) (seen := seen) rfl rfl (by decide) hh.1
        have a2 := a1.trans (go_lit_yes (pc := 7) (c := 46) rfl rfl (by decide) (by omega) hh.2)
        have a3 := a2.trans (go_success (pc := 9) rfl (by decide))
        exact ⟨_, by omega, finish_yes a3⟩
      · obtain ⟨n, pc, s2, hn, hg⟩ := fail (fun x => hh x.2)
        have hg2 := hg.trans (go_next (q := q) (by omega))
        rcases run1 text k (q + 1) false s2 (by omega) with ⟨h1, n2, hn2, h2⟩ | ⟨s, h1, h2, h3, h4, n2, hn2, h5⟩
        · refine .inl ⟨fun r a b => ?_, n + 1 + n2, by omega, ?_⟩
          · rcases Nat.eq_or_lt_of_le a with rfl | a
            · exact hh
            · exact h1 r a b
          · rw [runFor_add, show _ = _ from hg2]; exact h2
        · refine .inr ⟨s, by omega, h2, fun r a b => ?_, h4, n + 1 + n2, by omega, ?_⟩
          · rcases Nat.eq_or_lt_of_le a with rfl | a
            · exact hh
            · exact h3 r a b
          · rw [runFor_add, show _ = _ from hg2]; exact h5
/-- the first pattern's next place -/
theorem found1 (text : Array Nat) (p : Nat) :
    ((∀ r, p ≤ r → r < text.size → ¬ hit1 text r) ∧ Found code1 text p none) ∨
    ∃ q, p ≤ q ∧ q < text.size ∧ (∀ r, p ≤ r → r < q → ¬ hit1 text r) ∧ hit1 text q ∧ Found code1 text p (some (q, q + 1)) := by
  by_cases hp : p < text.size
  · obtain ⟨seen, hs⟩ := search1 text p hp
    rcases run1 text (text.size - p) p true seen (by omega) with ⟨h1, n, hn, h2⟩ | ⟨s, h1, h2, h3, h4, n, hn, h5⟩
    · refine .inl ⟨h1, n, by omega, ?_⟩
      rw [hs]; exact h2
    · refine .inr ⟨s, h1, h2, h3, h4, n, by omega, ?_⟩
      rw [hs]; exact h5
  · exact .inl ⟨fun r h1 h2 => absurd h2 (by omega), search1_end text p hp⟩
/-- the text that a substitution makes of a text's rest from p on -/
inductive Subst (code : Array Nat) (repl text : List Nat) : Nat → List Nat → Prop
  | done {p : Nat} : Found code text.toArray p none → p ≤ text.length → Subst code repl text p (text.drop p)
  | step {p b e : Nat} {o : List Nat} : Found code text.toArray p (some (b, e)) → p ≤ b → b < e → e ≤ text.length → Subst code repl text e o → Subst code repl text p ((text.drop p).take (b - p) ++ repl ++ o)
end Mine
end
section
namespace Mine

/-- feeds and returns as both -/
def norm : List Nat → List Nat
  | [] => []
  | c :: r => if c = 13 then (match r with | 10 :: r' => 13 :: 10 :: norm r' | r => 13 :: 10 :: norm r) else if c = 10 then 13 :: 10 :: norm r else c :: norm r
/-- a dot at a row's start doubled -/
def dots : Bool → List Nat → List Nat
  | _, [] => []
  | b, c :: r => if b = true ∧ c = 46 then 46 :: 46 :: dots false r else c :: dots (c == 10) r

theorem run_up (text : List Nat) (G : Nat → List Nat) (bad : Nat → Prop) (h : ∀ r (hr : r < text.length), ¬ bad r → G r = text[r] :: G (r + 1)) :
    ∀ k p, p + k ≤ text.length → (∀ r, p ≤ r → r < p + k → ¬ bad r) → G p = (text.drop p).take k ++ G (p + k)
  | 0, p, _, _ => by simp
  | k + 1, p, hk, hb => by
    have hp : p < text.length := by omega
    rw [h p hp (hb p (Nat.le_refl _) (by omega)), run_up text G bad h k (p + 1) (by omega) (fun r h1 h2 => hb r (by omega) (by omega))]
    rw [List.drop_eq_getElem_cons hp, List.take_succ_cons, List.cons_append, show p + 1 + k = p + (k + 1) from by omega]
theorem toArray_getD (l : List Nat) (r : Nat) : l.toArray.getD r 0 = l.getD r 0 := by simp
theorem getD_at {l : List Nat} {r : Nat} (h : r < l.length) : l.getD r 0 = l[r] := by simp [h]
theorem norm_nil : norm [] = [] := by rw [norm.eq_def]
theorem norm_other {c : Nat} {r : List Nat} (h : ¬ (c = 10 ∨ c = 13)) : norm (c :: r) = c :: norm r := by
  rw [norm.eq_def]
  have h1 : c ≠ 13 := fun e => h (.inr e)
  have h2 : c ≠ 10 := fun e => h (.inl e)
  simp [h1, h2]

theorem subst2 (text : List Nat) : ∀ (n p : Nat), text.length - p ≤ n → p ≤ text.length → Subst code2 [13, 10] text p (norm (text.drop p)) := by
  intro n
  induction n with
  | zero =>
    intro p hn hp
    have e : text.drop p = [] := List.drop_of_length_le (by omega)
    rcases found2 text.toArray p with ⟨_, h⟩ | ⟨q, e', h1, h2, _⟩
    · have := Subst.done (repl := [13, 10]) h hp
      rw [e] at this ⊢
      exact this
    · rw [List.size_toArray] at h2; omega
  | succ n ih =>
    intro p hn hp
    have step : ∀ r (hr : r < text.length), ¬ (text.getD r 0 = 10 ∨ text.getD r 0 = 13) → norm (text.drop r) = text[r] :: norm (text.drop (r + 1)) := by
      intro r hr hb
      rw [List.drop_eq_getElem_cons hr]
      rw [getD_at hr] at hb
      exact norm_other hb
    rcases found2 text.toArray p with ⟨h0, h⟩ | ⟨q, e, h1, h2, h3, h4, h5, h6⟩
    · have := Subst.done (repl := [13, 10]) h hp
      have e := run_up text (fun r => norm (text.drop r)) _ step (text.length - p) p (by omega) (fun r a b => by have := h0 r a (by rw [List.size_toArray]; omega); simpa only [toArray_getD] using this)
      rw [show p + (text.length - p) = text.length from by omega, List.drop_length, norm_nil] at e
      have e2 : norm (text.drop p) = text.drop p := by
        rw [e, List.take_of_length_le (by simp)]; simp
      rw [e2]; exact this
    · rw [List.size_toArray] at h2
      simp only [toArray_getD, List.size_toArray] at h3 h4 h5
      have e1 := run_up text (fun r => norm (text.drop r)) _ step (q - p) p (by omega) (fun r a b => h3 r a (by omega))
      rw [show p + (q - p) = q from by omega] at e1
      have he : q < e ∧ e ≤ text.length := by rw [h5]; split <;> omega
      have e2 : norm (text.drop q) = [13, 10] ++ norm (text.drop e) := by
        rw [List.drop_eq_getElem_cons h2]
        rw [getD_at h2] at h4 h5
        by_cases c13 : text[q] = 13
        · by_cases c10 : q + 1 < text.length ∧ text.getD (q + 1) 0 = 10
          · rw [if_pos ⟨c13, c10⟩] at h5
            rw [h5, List.drop_eq_getElem_cons c10.1]
            have := c10.2
            rw [getD_at c10.1] at this
            rw [c13, this]
            rw [norm.eq_def]
            simp
          · rw [if_neg (fun x => c10 x.2)] at h5
            rw [h5, c13, norm.eq_def]
            simp only [if_true]
            split
            · rename_i r' hr'
              exfalso
              apply c10
              have hlt : q + 1 < text.length := by
                have : (text.drop (q + 1)).length = (10 :: r').length := by rw [hr']
                simp at this; omega
              refine ⟨hlt, ?_⟩
              rw [List.drop_eq_getElem_cons hlt] at hr'
              rw [getD_at hlt]
              exact (List.cons.inj hr').1
            · rfl
        · have c10 : text[q] = 10 := h4.resolve_right c13
          rw [if_neg (fun x => c13 x.1)] at h5
          rw [h5, c10, norm.eq_def]
          simp
      rw [e1, e2, ← List.append_assoc]
      exact Subst.step h6 h1 he.1 he.2 (ih e (by omega) he.2)
/-- is a place a row's start -/
def atRow (text : List Nat) (r : Nat) : Bool := r == 0 || text.getD (r - 1) 0 == 10
theorem hit_iff (text : List Nat) (r : Nat) : hit1 text.toArray r ↔ (atRow text r = true ∧ text.getD r 0 = 46) := by
  unfold atRow hit1
  simp only [toArray_getD, Bool.or_eq_true, beq_iff_eq]
theorem atRow_succ (text : List Nat) (r : Nat) : atRow text (r + 1) = (text.getD r 0 == 10) := by simp [atRow]
theorem subst1 (text : List Nat) : ∀ (n p : Nat), text.length - p ≤ n → p ≤ text.length → Subst code1 [46, 46] text p (dots (atRow text p) (text.drop p)) := by
  intro n
  induction n with
  | zero =>
    intro p hn hp
    have e : text.drop p = [] := List.drop_of_length_le (by omega)
    rcases found1 text.toArray p with ⟨_, h⟩ | ⟨q, h1, h2, _⟩
    · have := Subst.done (repl := [46, 46]) h hp
      rw [e] at this ⊢
      simpa [dots] using this
    · rw [List.size_toArray] at h2; omega
  | succ n ih =>
    intro p hn hp
    have step : ∀ r (hr : r < text.length), ¬ hit1 text.toArray r → dots (atRow text r) (text.drop r) = text[r] :: dots (atRow text (r + 1)) (text.drop (r + 1)) := by
      intro r hr hb
      rw [hit_iff, getD_at hr] at hb
      rw [List.drop_eq_getElem_cons hr, dots, if_neg hb, atRow_succ, getD_at hr]
    rcases found1 text.toArray p with ⟨h0, h⟩ | ⟨q, h1, h2, h3, h4, h6⟩
    · have := Subst.done (repl := [46, 46]) h hp
      have e := run_up text (fun r => dots (atRow text r) (text.drop r)) _ step (text.length - p) p (by omega) (fun r a b => h0 r a (by rw [List.size_toArray]; omega))
      rw [show p + (text.length - p) = text.length from by omega, List.drop_length, dots] at e
      have e2 : dots (atRow text p) (text.drop p) = text.drop p := by
        rw [e, List.take_of_length_le (by simp)]; simp
      rw [e2]; exact this
    · rw [List.size_toArray] at h2
      have e1 := run_up text (fun r => dots (atRow text r) (text.drop r)) _ step (q - p) p (by omega) (fun r a b => h3 r a (by omega))
      rw [show p + (q - p) = q from by omega] at e1
      have e2 : dots (atRow text q) (text.drop q) = [46, 46] ++ dots (atRow text (q + 1)) (text.drop (q + 1)) := by
        rw [hit_iff, getD_at h2] at h4
        rw [List.drop_eq_getElem_cons h2, dots, if_pos h4, atRow_succ, getD_at h2, h4.2]
        rfl
      rw [e1, e2, ← List.append_assoc]
      exact Subst.step h6 h1 (Nat.lt_succ_self _) (by omega) (ih (q + 1) (by omega) (by omega))
end Mine
end
section
open PySem PySem.W PySem.Calls PyProof.Rows
set_option maxRecDepth 100000
namespace Mine
theorem plainAttrs_pat : PlainAttrs "re.Pattern" :=
  ⟨⟨"object.__getattribute__", by rw [typeLookup_type, builtinLookup_eq_fast]; kernel_rfl, by decide +kernel⟩, by rw [typeLookup_type, builtinLookup_eq_fast]; kernel_rfl⟩
theorem slot_pat_sub : Slot "re.Pattern" "sub" "re.Pattern.sub" :=
  .of (owner := "re.Pattern") (n := "sub") (by rw [typeLookup_type, builtinLookup_eq_fast]; kernel_rfl) (by decide +kernel) (by decide +kernel) (by decide +kernel)
    (by first | exact .inl (by decide +kernel) | exact .inr (by decide +kernel)) (by rw [isSubtype_type]; kernel_rfl)
theorem type_pat_sub : typeOf (.builtin "re.Pattern.sub") = pure (.type "method_descriptor") := by show builtinType _ = _; rw [builtinType_eq_fast]; kernel_rfl
theorem entry_pat_sub : entryFor table "re.Pattern.sub" = some Builtin.«re.Pattern.sub» := entryFor_of_tree (by kernel_rfl)
theorem entry_pat_loop : entryFor table "re.Pattern.sub.loop" = some Builtin.«re.Pattern.sub.loop» := entryFor_of_tree (by kernel_rfl)
theorem owner_pat : Manifest.owners.lookup (String.ofList ['n', 'r', 'e', 't', 't', 'a', 'P', '.', 'e', 'r'].reverse) = some Manifest.sig_re_Pattern := by kernel_rfl
theorem args_pat_sub (a b c : Value) : argsOk "re.Pattern.sub" ⟨[a, b, c], []⟩ := by
  unfold argsOk; rw [signature?_of (id := "re.Pattern.sub") (n := ['b', 'u', 's']) (o := ['n', 'r', 'e', 't', 't', 'a', 'P', '.', 'e', 'r']) (by kernel_rfl) owner_pat]; kernel_rfl
open PySem.Builtin PySem.Builtin.Re
/-- a pattern object without groups, of texts -/
def Pat (h : Heap) (P : Addr) (code : Array Nat) : Prop :=
  ∃ o fs C oc items n, h.get? P = some o ∧ o.cls = .type "re.Pattern" ∧ o.dict = none ∧ o.data = .fields fs ∧ fs.getD 6 .none = .int 0 0 ∧ fs.getD 2 .none = .int 0 0 ∧ fs.getD 5 .none = .ref C ∧
    h.get? C = some oc ∧ oc.data = .seq items n ∧ (items.map reRawOf).map (·.toNat) = code
theorem Pat.keeps {h h' : Heap} {P : Addr} {code : Array Nat} (p : Pat h P code) (k : ∀ b o, h.get? b = some o → h'.get? b = some o) : Pat h' P code := by
  refine shut fun P9 hP9 => ?_
  obtain ⟨o, fs, C, oc, items, n, a, b, c, d, e, f, g, i, j, l⟩ := p
  exact hP9 ⟨o, fs, C, oc, items, n, k _ _ a, b, c, d, e, f, g, k _ _ i, j, l⟩
section
variable {prog : Program} {w : World} {A : Around} {s : Shared} {P : Addr} {code : Array Nat}
theorem wp_target {E : Value → Shared → Prop} {x : PySem.Str} {xt : Tok} {Q : ReTarget → Shared → Prop} (p : Pat s.heap P code)
    (h : Q { pattern := .ref P, string := .str x xt, code := code, text := x.cps, kind := 0, groups := 0, pos := 0, lim := x.cps.size } s) :
    wpAny (model prog w) A (reWholeTarget (.ref P) (.str x xt)) Q E s := by
  obtain ⟨o, fs, C, oc, items, n, h1, h2, h3, h4, h5, h6, h7, h8, h9, h10⟩ := p
  unfold reWholeTarget
  refine wpAny_bind (wpAny_fieldsOf h1 h4 ?_)
  refine wpAny_bind (wpAny_pure ?_)
  simp only [h5, h6, h7, reRawNat]
  refine wpAny_bind ?_
  refine (wpAny_pure ?_ : wpAny (model prog w) A (pure ()) _ E s)
  refine wpAny_bind ?_
  unfold reRawItems
  refine wpAny_bind (wpAny_seqItems h8 h9 (wpAny_pure ?_))
  rw [Option.getD_some, h10]
  exact wpAny_pure h
theorem wp_drive {E : Value → Shared → Prop} {Q : Sre.M → Shared → Prop} : ∀ (t n : Nat) (m : Sre.M), n ≤ 4 * t → 0 < t → (m.runFor n).outcome.isSome = true → Q (m.runFor n) s → wpAny (model prog w) A (reDrive t m) Q E s
  | 0, _, _, _, h, _, _ => absurd h (Nat.lt_irrefl 0)
  | t + 1, n, m, hn, _, ho, h => by
    unfold reDrive
    have e4 : reTurnSteps = 4 := rfl
    rw [e4]
    by_cases hd : (m.runFor 4).outcome.isSome = true
    · simp only [hd, if_true]
      have e : m.runFor n = m.runFor 4 := by
        rcases Nat.le_total n 4 with h4 | h4
        · rw [show (4 : Nat) = n + (4 - n) from by omega, Mine.runFor_add, runFor_done _ _ ho]
        · obtain ⟨k, rfl⟩ := Nat.exists_eq_add_of_le h4
          rw [Mine.runFor_add, runFor_done _ _ hd]
      rw [e] at h
      exact wpAny_pure h
    · simp only [hd, Bool.false_eq_true, if_false]
      refine wpAny_bind (wpAny_rule ?_)
      have h4 : 4 ≤ n := by
        rcases Nat.lt_or_ge n 4 with h4 | h4
        · exfalso
          apply hd
          rw [show (4 : Nat) = n + (4 - n) from by omega, Mine.runFor_add, runFor_done _ _ ho]
          exact ho
        · exact h4
      have e : m.runFor n = (m.runFor 4).runFor (n - 4) := by rw [← Mine.runFor_add, show 4 + (n - 4) = n from by omega]
      rw [e] at ho h
      refine wp_drive t (n - 4) (m.runFor 4) (by omega) ?_ ho h
      rcases Nat.eq_zero_or_pos t with rfl | ht
      · exfalso
        have : n = 4 := by omega
        subst this
        exact hd ho
      · exact ht
theorem wp_ticks {E : Value → Shared → Prop} {Q : PUnit → Shared → Prop} (m : Sre.M) (l : List Nat) (h : Q PUnit.unit s) :
    wpAny (model prog w) A (forIn l PUnit.unit fun i _ => if m.seen.has i = true then (do rule (Sre.names.getD i ""); pure (ForInStep.yield PUnit.unit)) else pure (ForInStep.yield PUnit.unit)) Q E s := by
  refine wpAny_forIn_list _ (fun _ _ s' => Q PUnit.unit s') _ (fun x rest b s' hI => ?_) (fun _ _ hI => hI) l PUnit.unit h
  split
  · exact wpAny_bind (wpAny_rule (wpAny_pure hI))
  · exact wpAny_pure hI
theorem wp_next {E : Value → Shared → Prop} {Q : Option Sre.M → Shared → Prop} {t : ReTarget} {p : Nat} {r : Option (Nat × Nat)} (hf : Found t.code t.text p r) (hg : t.groups = 0) (hl : t.lim = t.text.size) (hz : t.text.size ≤ 16777216)
    (h : match r with | some (b, e) => ∀ m : Sre.M, m.start = b → m.handed = e → Q (some m) s | none => Q none s) : wpAny (model prog w) A (reNextFound t p false) Q E s := by
  unfold reNextFound reRunToEnd
  rw [hg, hl]
  obtain ⟨n, hn, hf⟩ := hf
  have hz2 : n ≤ 4 * 2 ^ 64 := by omega
  cases r with
  | none =>
    refine wpAny_bind (wp_drive (2 ^ 64) n _ hz2 (by decide) (by rw [hf]; rfl) ?_)
    refine wpAny_bind (wp_ticks _ _ ?_)
    rw [hf]
    exact wpAny_pure h
  | some be =>
    obtain ⟨b, e⟩ := be
    refine wpAny_bind (wp_drive (2 ^ 64) n _ hz2 (by decide) (by rw [hf.1]; rfl) ?_)
    refine wpAny_bind (wp_ticks _ _ ?_)
    rw [hf.1]
    exact wpAny_pure (h _ hf.2.1 hf.2.2)
theorem join_empty (xs : List (List Nat)) : PySem.Txt.join (sOf []) (xs.map sOf) = sOf xs.flatten := by
  unfold PySem.Txt.join Builtin.Str.glued
  have h : ∀ (ys : List (List Nat)) (acc : List Nat), (ys.map sOf).foldl (fun acc p => acc ++ (sOf []).cps ++ p.cps) acc.toArray = (acc ++ ys.flatten).toArray := by
    intro ys
    induction ys with
    | nil => intro acc; simp
    | cons y r ih =>
      intro acc
      simp only [List.map_cons, List.foldl_cons]
      have e : acc.toArray ++ (sOf []).cps ++ (sOf y).cps = (acc ++ y).toArray := by simp
      rw [e, ih]
      simp
  cases xs with
  | nil => rfl
  | cons x r =>
    have := h r x
    simp only [List.map_cons, List.drop_succ_cons, List.drop_zero, List.headD_cons]
    exact congrArg PySem.Str.mk (this.trans (by simp))
theorem push_wp {h₀ : Heap} {L lst : Addr} {m : PySem.Str → Option Value} {pv : List Value} {k : Nat} {v : Value} {E : Value → Shared → Prop} {Q : Unit → Shared → Prop} (F : Fr h₀ L s.heap m) (N : News h₀ L s.heap [(lst, listOf pv.toArray k)]) (hz : pv.length ≤ 100000)
    (h : ∀ h', Fr h₀ L h' m → News h₀ L h' [(lst, listOf (pv ++ [v]).toArray (k + 1))] → Q () { s with heap := h' }) : wpAny (model prog w) A (updateSeq lst fun x => x.push v) Q E s := by
  have z := N _ (List.Mem.head _)
  refine wpAny_updateSeq z.1 rfl (h _ (F.change (Heap.SameBut.update ..) z.2.1 z.2.2) (kl_turn (pre := []) (post := []) (its := pv.toArray) (its' := (pv ++ [v]).toArray) (fun x => x.push v) N (fun _ hp => nomatch hp) (fun _ hp => nomatch hp) (by simp) (by simp))) ?_ ?_
  · show pv.toArray.size ≤ sizeLine; rw [sizeLine_eq, List.size_toArray]; omega
  · show (pv.toArray.push v).size ≤ sizeLine + 1; rw [sizeLine_eq, Array.size_push, List.size_toArray]; omega
theorem slice_wp {text : List Nat} {b e : Nat} {E : Value → Shared → Prop} {Q : Value → Shared → Prop} (hz : text.length ≤ 100000) (h : ∀ t k, Q (.str (sOf ((text.drop b).take (e - b))) t) { s with toks := k }) : wpAny (model prog w) A (reSlice text.toArray 0 b e) Q E s := by
  unfold reSlice
  rw [if_pos (by rfl : ((0 : Nat) == 0) = true)]
  have e1 : (⟨text.toArray.extract b e⟩ : PySem.Str) = sOf ((text.drop b).take (e - b)) := by
    show PySem.Str.mk _ = PySem.Str.mk _
    simp [List.extract_eq_drop_take]
  rw [e1]
  refine wpAny_mkStr (h _ _) ?_
  rw [sizeLine_eq, sOf_len, List.length_take, List.length_drop]
  omega
theorem sub_loop {h₀ : Heap} {L lst : Addr} {m : PySem.Str → Option Value} {text repl : List Nat} {xt rt : Tok} {R : Result → Shared → Prop} (hz : text.length ≤ 1000) (hrl : repl.length ≤ 10) :
    ∀ {p : Nat} {o : List Nat}, Subst code repl text p o → ∀ (s : Shared) (pv : List Value) (ss : List (List Nat)) (k : Nat) (nn : Int), Pat h₀ P code → Fr h₀ L s.heap m → News h₀ L s.heap [(lst, listOf pv.toArray k)] →
      StrsAre pv (ss.map sOf) → ss.flatten.length + ss.length ≤ 40 * p → p ≤ text.length →
      (∀ tk h' k' pv', Fr h₀ L h' m → News h₀ L h' [(lst, listOf pv' k')] → ∀ t', R (.ok (.ret (.str (sOf (ss.flatten ++ o)) t'))) { s with heap := h', toks := tk }) →
      codeAny (model prog w) A (.builtin "re.Pattern.sub.loop" ⟨[.ref P, .str (sOf text) xt, .str (sOf repl) rt, rawInt 0, rawInt 0, rawInt nn, rawInt p, rawInt p, .bool false, .ref lst, .bool false], []⟩) R s := by
  intro p o hs
  induction hs with
  | @done p hf hp =>
    intro s pv ss k nn hP F N hS hb hp' hR
    refine codeAny_builtin entry_pat_loop ?_
    unfold Builtin.«re.Pattern.sub.loop»
    simp only [rawInt]
    have hPs : Pat s.heap P code := hP.keeps F.keep
    refine wpAny_bind (wp_target hPs ?_)
    rw [if_pos (by rfl : ((0 : Int) == 0) = true)]
    refine wpAny_bind (wpAny_pure ?_ : wpAny _ _ (reLiteralCannotBeTurned (.str (sOf repl) rt)) _ _ _)
    dsimp only
    have e1 : ((0 : Int) != 0 && decide (nn ≥ 0)) = false := rfl
    rw [if_neg (by rw [e1]; exact Bool.false_ne_true)]
    have e2 : ((p : Int)).toNat = p := Int.toNat_natCast p
    rw [e2]
    refine wpAny_bind (wp_next (r := none) hf rfl rfl (by simp; omega) ?_)
    have hpl : pv.length = ss.length := by have := hS.length; simpa using this
    have fin : ∀ (s' : Shared) (pv : List Value) (ss' : List (List Nat)) (k : Nat), (∃ h' tk, s' = { s with heap := h', toks := tk }) → Fr h₀ L s'.heap m → News h₀ L s'.heap [(lst, listOf pv.toArray k)] → StrsAre pv (ss'.map sOf) → ss'.flatten = ss.flatten ++ text.drop p → ss'.length ≤ ss.length + 1 →
      wpAny (model prog w) (A.under (.builtin "re.Pattern.sub.loop" ⟨[.ref P, .str (sOf text) xt, .str (sOf repl) rt, .int 0 0, .int 0 0, .int nn 0, .int p 0, .int p 0, .bool false, .ref lst, .bool false], []⟩))
        (do
          let joiner ← reSlice text.toArray 0 0 0
          let __do_lift ← seqItems? (.ref lst)
          if (__do_lift.getD #[]).isEmpty = true then do
            let text ← pure joiner
            if false = true then do
              let __do_lift ← holding [text] (do let __do_lift ← mkInt nn; newTuple [text, __do_lift])
              ret __do_lift
            else ret text
          else do
            let text ← call (.builtin (if ((0 : Nat) == 0) = true then "str.join" else "bytes.join")) [joiner, .ref lst]
            if false = true then do
              let __do_lift ← holding [text] (do let __do_lift ← mkInt nn; newTuple [text, __do_lift])
              ret __do_lift
            else ret text) (fun fin s' => match fin with | .done f => R (.ok f) s' | .again c' => c'.quiet = true ∧ codeAny (model prog w) A c' R s') (fun e s' => R (.error e) s') s' := by
      rintro s' pv ss' k ⟨h', tk, rfl⟩ F N hS he hl
      refine wpAny_bind (slice_wp (by omega) fun t1 k1 => ?_)
      refine wpAny_bind (wpAny_seqItems (N _ (List.Mem.head _)).1 rfl ?_)
      rw [Option.getD_some]
      cases hS' : ss' with
      | nil =>
        subst hS'
        cases hS
        simp only [List.flatten_nil] at he
        rw [if_pos (by rfl)]
        refine wpAny_bind (wpAny_pure ?_)
        simp only [Bool.false_eq_true, if_false]
        refine wpAny_pure ?_
        have := hR k1 h' k _ F N t1
        rw [← he] at this
        simpa using this
      | cons y r =>
        have hne : pv.toArray.isEmpty = false := by
          have := hS.length
          rw [hS'] at this
          cases pv with
          | nil => simp at this
          | cons _ _ => rfl
        rw [if_neg (by rw [hne]; exact Bool.false_ne_true)]
        rw [if_pos (by rfl : ((0 : Nat) == 0) = true)]
        have e3 : (text.drop 0).take (0 - 0) = [] := rfl
        rw [e3]
        have hl2 : (ss'.map sOf).map (·.length) = ss'.map (·.length) := by simp [sOf_len]
        have hsum : ((ss'.map sOf).map (·.length)).sum + (ss'.map sOf).length ≤ 1048576 := by
          rw [hl2, ← List.length_flatten, he, List.length_map, List.length_append, List.length_drop]
          omega
        refine wpAny_bind (join_listW (News.isList N (List.Mem.head _)) (by simpa using hS) (by decide) hsum fun t2 k2 => ?_)
        simp only [Bool.false_eq_true, if_false]
        refine wpAny_pure ?_
        rw [join_empty, he]
        exact hR k2 h' k _ F N t2
    by_cases hlt : p < text.length
    · have hlt' : p < text.toArray.size := by simpa using hlt
      rw [if_pos hlt']
      refine wpAny_bind (slice_wp (by omega) fun t1 k1 => ?_)
      refine wpAny_bind (push_wp F N (by omega) fun h' F' N' => ?_)
      refine fin _ _ (ss ++ [text.drop p]) _ ⟨h', k1, rfl⟩ F' N' ?_ (by simp) (by simp)
      rw [List.map_append]
      refine StrsAre.append' hS ?_
      have e4 : (text.drop p).take (text.toArray.size - p) = text.drop p := by
        rw [List.size_toArray]; exact List.take_of_length_le (by simp)
      rw [e4]
      exact .cons _ _ .nil
    · have hlt' : ¬ p < text.toArray.size := by simpa using hlt
      rw [if_neg hlt']
      have e5 : text.drop p = [] := List.drop_of_length_le (by omega)
      exact fin _ pv ss k ⟨s.heap, s.toks, rfl⟩ F N hS (by rw [e5]; simp) (by omega)
  | @step p b e o hf h1 h2 h3 _ ih =>
    intro s pv ss k nn hP F N hS hb hp' hR
    refine codeAny_builtin entry_pat_loop ?_
    unfold Builtin.«re.Pattern.sub.loop»
    simp only [rawInt]
    have hPs : Pat s.heap P code := hP.keeps F.keep
    refine wpAny_bind (wp_target hPs ?_)
    rw [if_pos (by rfl : ((0 : Int) == 0) = true)]
    refine wpAny_bind (wpAny_pure ?_ : wpAny _ _ (reLiteralCannotBeTurned (.str (sOf repl) rt)) _ _ _)
    dsimp only
    have e1 : ((0 : Int) != 0 && decide (nn ≥ 0)) = false := rfl
    rw [if_neg (by rw [e1]; exact Bool.false_ne_true)]
    have e2 : ((p : Int)).toNat = p := Int.toNat_natCast p
    rw [e2]
    refine wpAny_bind (wp_next (r := some (b, e)) hf rfl rfl (by simp; omega) fun mm hs1 hs2 => ?_)
    have hpl : pv.length = ss.length := by have := hS.length; simpa using this
    have e6 : (mm.handed == mm.start) = false := by rw [hs1, hs2]; simp; omega
    dsimp only
    rw [hs1, hs2]
    have e7 : (e == b) = false := by simp; omega
    rw [e7]
    have hl0 : (0 : Nat) == 0 := rfl
    -- push the text, then on
    have on : ∀ (s' : Shared) (pv : List Value) (ss' : List (List Nat)) (k : Nat), (∃ h' tk, s' = { s with heap := h', toks := tk }) → Fr h₀ L s'.heap m → News h₀ L s'.heap [(lst, listOf pv.toArray k)] → StrsAre pv (ss'.map sOf) → ss'.flatten = ss.flatten ++ (text.drop p).take (b - p) → ss'.length ≤ ss.length + 1 →
      wpAny (model prog w) (A.under (.builtin "re.Pattern.sub.loop" ⟨[.ref P, .str (sOf text) xt, .str (sOf repl) rt, .int 0 0, .int 0 0, .int nn 0, .int p 0, .int p 0, .bool false, .ref lst, .bool false], []⟩))
        (do
          updateSeq lst fun x => x.push (.str (sOf repl) rt)
          again (.builtin "re.Pattern.sub.loop" ⟨[.ref P, .str (sOf text) xt, .str (sOf repl) rt, .int 0 0, .int 0 0, .int (nn + 1) 0, .int e 0, .int e 0, .bool false, .ref lst, .bool false], []⟩)) (fun fin s' => match fin with | .done f => R (.ok f) s' | .again c' => c'.quiet = true ∧ codeAny (model prog w) A c' R s') (fun e s' => R (.error e) s') s' := by
      rintro s' pv ss' k ⟨h', tk, rfl⟩ F N hS he hl
      have hpl' : pv.length = ss'.length := by have := hS.length; simpa using this
      refine wpAny_bind (push_wp F N (by omega) fun h2 F2 N2 => ?_)
      refine wpAny_pure ⟨Code.quiet_builtin _ (by decide +kernel), ?_⟩
      refine ih _ (pv ++ [.str (sOf repl) rt]) (ss' ++ [repl]) (k + 1) (nn + 1) hP F2 N2 ?_ ?_ h3 fun tk3 h3' k3 pv3 F3 N3 t3 => ?_
      · rw [List.map_append]; exact StrsAre.append' hS (.cons _ _ .nil)
      · rw [List.flatten_append, List.length_append, List.length_append, he, List.length_append, List.length_take, List.length_drop]
        simp only [List.flatten_cons, List.flatten_nil, List.append_nil, List.length_cons, List.length_nil]
        omega
      · have := hR tk3 h3' k3 pv3 F3 N3 t3
        rw [List.flatten_append, he]
        simpa [List.append_assoc] using this
    by_cases hlt : p < b
    · rw [if_pos hlt]
      refine wpAny_bind (slice_wp (by omega) fun t1 k1 => ?_)
      refine wpAny_bind (push_wp F N (by omega) fun h' F' N' => ?_)
      refine on _ _ (ss ++ [(text.drop p).take (b - p)]) _ ⟨h', k1, rfl⟩ F' N' ?_ (by simp) (by simp)
      rw [List.map_append]
      exact StrsAre.append' hS (.cons _ _ .nil)
    · rw [if_neg hlt]
      have e5 : (text.drop p).take (b - p) = [] := by rw [show b - p = 0 from by omega]; rfl
      exact on _ pv ss k ⟨s.heap, s.toks, rfl⟩ F N hS (by rw [e5]; simp) (by omega)
theorem named_sub (r x : Value) : reNamed "re.Pattern.sub" "sub" ["repl", "string", "count"] 2 [r, x] [] = pure [some r, some x, none] := by rfl
theorem str_call : typeLookup (.type "str") "__call__" = pure none := by rw [typeLookup_type, builtinLookup_eq_fast]; kernel_rfl
/-- a call of a pattern's sub -/
theorem sub_call {h₀ : Heap} {L : Addr} {m : PySem.Str → Option Value} {text repl o : List Nat} {xt rt : Tok} {E : Value → Shared → Prop} {Q : Value → Shared → Prop} (hz : text.length ≤ 1000) (hrl : repl.length ≤ 10) (hr : (sOf repl).cps.contains 92 = false)
    (hs : Subst code repl text 0 o) (hP : Pat h₀ P code) (F : Fr h₀ L s.heap m)
    (h : ∀ tk h' t', Fr h₀ L h' m → Q (.str (sOf o) t') { s with heap := h', toks := tk }) :
    wpAny (model prog w) A (call (.builtin "re.Pattern.sub") [.ref P, .str (sOf repl) rt, .str (sOf text) xt]) Q E s := by
  have hPs : Pat s.heap P code := hP.keeps F.keep
  have hT : s.TypeIs (.ref P) "re.Pattern" := by
    obtain ⟨o, fs, C, oc, items, n, h1, h2, _⟩ := hPs
    exact ⟨o, h1, h2⟩
  refine wpAny_call (codeAny_call_builtin slot_pat_sub.plain entry_pat_sub (slot_pat_sub.check _ _ _ _ _ _ _ _ hT (args_pat_sub _ _ _) ?_))
  unfold Builtin.«re.Pattern.sub» reSubstitute
  dsimp only
  rw [named_sub]
  refine wpAny_bind (wpAny_pure ?_)
  refine wpAny_bind (wpAny_pure ?_)
  refine wpAny_bind (wpAny_specialOf (typeIs_str _ _ _) str_call ?_)
  simp only [Option.isSome_none, Bool.false_eq_true, if_false]
  refine wpAny_bind (wpAny_pure ?_ : wpAny _ _ (asStr? (.str (sOf repl) rt)) _ _ _)
  refine wpAny_bind (wpAny_pure ?_)
  simp only [hr, Bool.not_false, if_true]
  refine wpAny_bind (wpAny_pure ?_)
  refine wpAny_bind (wpAny_holding (wp_target hPs ?_))
  rw [if_neg (show ¬ (((Value.str (sOf repl) rt, (0 : Int)).2 == 1) = true) from fun h => Bool.false_ne_true h)]
  refine wpAny_bind (newList_K F (News.nil) fun l h1 F1 N1 _ => ?_)
  refine wpAny_pure ⟨Code.quiet_builtin _ (by decide +kernel), ?_⟩
  exact sub_loop hz hrl hs _ [] [] 0 0 hP F1 N1 .nil (by simp) (Nat.zero_le _) fun tk h' k' pv' F' N' t' => h tk h' t' F'
end
end Mine
end
section
open PySem PySem.W PySem.Calls PyProof.Rows
set_option maxRecDepth 100000
namespace Mine
theorem len_norm : ∀ (n : Nat) (l : List Nat), l.length ≤ n → (norm l).length ≤ 2 * l.length
  | _, [], _ => by rw [norm_nil]; simp
  | 0, _ :: _, h => by simp at h
  | n + 1, c :: r, h => by
    simp only [List.length_cons] at h
    rw [norm.eq_def]
    split
    · simp
    · rename_i c' r' he
      obtain ⟨rfl, rfl⟩ := List.cons.inj he
      split
      · split
        · rename_i r''
          simp only [List.length_cons] at h
          have := len_norm n r'' (by omega)
          simp only [List.length_cons]; omega
        · have := len_norm n r (by omega)
          simp only [List.length_cons]; omega
      · split
        · have := len_norm n r (by omega)
          simp only [List.length_cons]; omega
        · have := len_norm n r (by omega)
          simp only [List.length_cons]; omega
section
variable {prog : Program} {w : World} {A : Around} {s : Shared} {P : Addr} {code : Array Nat} {h₀ : Heap} {L : Addr} {m : PySem.Str → Option Value} {E : Value → Shared → Prop}
theorem pat_method {pl : Sem Bool} {Q : Value × List Value → Shared → Prop} (hP : Pat h₀ P code) (F : Fr h₀ L s.heap m) (h : Q (.builtin "re.Pattern.sub", [.ref P]) s) : wpAny (model prog w) A (getMethod (.ref P) (Str.ofString "sub") pl) Q E s := by
  obtain ⟨o, fs, C, oc, items, n, h1, h2, h3, _⟩ := hP
  exact getMethod_builtin ⟨o, F.keep _ _ h1, h2⟩ plainAttrs_pat slot_pat_sub type_pat_sub (fun a e => by cases e; exact ⟨o, F.keep _ _ h1, h3⟩) h
theorem sub2_call {x : List Nat} {rs xs : PySem.Str} {rt xt : Tok} {Q : Value → Shared → Prop} (hP : Pat h₀ P code2) (F : Fr h₀ L s.heap m) (hr : rs = sOf [13, 10]) (hx : xs = sOf x) (hz : x.length ≤ 1000)
    (h : ∀ tk h' t', Fr h₀ L h' m → Q (.str (sOf (norm x)) t') { s with heap := h', toks := tk }) : wpAny (model prog w) A (call (.builtin "re.Pattern.sub") [.ref P, .str rs rt, .str xs xt]) Q E s := by
  subst hr hx
  exact sub_call hz (by decide) (by decide +kernel) (subst2 x x.length 0 (by omega) (by omega)) hP F h
theorem sub1_call {x : List Nat} {rs xs : PySem.Str} {rt xt : Tok} {Q : Value → Shared → Prop} (hP : Pat h₀ P code1) (F : Fr h₀ L s.heap m) (hr : rs = sOf [46, 46]) (hx : xs = sOf x) (hz : x.length ≤ 1000)
    (h : ∀ tk h' t', Fr h₀ L h' m → Q (.str (sOf (dots true x)) t') { s with heap := h', toks := tk }) : wpAny (model prog w) A (call (.builtin "re.Pattern.sub") [.ref P, .str rs rt, .str xs xt]) Q E s := by
  subst hr hx
  exact sub_call hz (by decide) (by decide +kernel) (subst1 x x.length 0 (by omega) (by omega)) hP F h
end
theorem pat60 {w : World} {h : Heap} (X : (hd.heap_39 w.params).In h) : Pat h 60 code1 :=
  ⟨_, _, 59, _, _, _, X 60 _ rfl, rfl, rfl, rfl, rfl, rfl, rfl, X 59 _ rfl, rfl, by decide +kernel⟩
theorem pat65 {w : World} {h : Heap} (X : (hd.heap_39 w.params).In h) : Pat h 65 code2 :=
  ⟨_, _, 64, _, _, _, X 65 _ rfl, rfl, rfl, rfl, rfl, rfl, rfl, X 64 _ rfl, rfl, by decide +kernel⟩
theorem crlf_is : Str.ofString "\r\n" = sOf [13, 10] := by decide +kernel
theorem dots_is : Str.ofString ".." = sOf [46, 46] := by decide +kernel
end Mine
end
section
namespace Mine
abbrev PR : List Int := [2, 3, 5, 7, 11, 13, 17, 19, 23, 29, 31, 37, 41, 43, 47, 53, 59, 61, 67]
/-- the n-th prime -/
def prm (n : Int) : Int := PR.getD (n - 1).toNat 1
namespace Fo
/-- the number of what is in a pair -/
def num : Fo → Int
  | nil => 1
  | cons _ a b => prm a.num * b.num
/-- the numbers of all pairs, as they open -/
def pre : Fo → List Int
  | nil => []
  | cons _ a b => a.num :: (a.pre ++ b.pre)
def tops : Fo → List Int
  | nil => []
  | cons _ a b => a.num :: b.tops
/-- every pair's number is a place in the table -/
def fits : Fo → Prop
  | nil => True
  | cons _ a b => a.num ≤ 19 ∧ a.fits ∧ b.fits
end Fo
theorem prm_pos (n : Int) : 1 ≤ prm n := by
  unfold prm
  have h : ∀ k : Nat, 1 ≤ PR.getD k 1 := by
    intro k
    match k with
    | 0 | 1 | 2 | 3 | 4 | 5 | 6 | 7 | 8 | 9 | 10 | 11 | 12 | 13 | 14 | 15 | 16 | 17 | 18 => decide
    | k + 19 => simp
  exact h _
theorem Fo.num_pos : ∀ f : Fo, 1 ≤ f.num
  | nil => by decide
  | cons k a b => by
    unfold num
    have h1 := prm_pos a.num
    have h2 := num_pos b
    have := Int.mul_le_mul h1 h2 (by omega) (by omega)
    simpa using this
/-- a bracket's symbol -/
def sy (c : Nat) : Int := if c = 40 then 7 else if c = 41 then 8 else if c = 91 then 9 else if c = 93 then 10 else if c = 123 then 25 else if c = 125 then 26 else 0
def isBr (c : Nat) : Prop := c = 40 ∨ c = 41 ∨ c = 91 ∨ c = 93 ∨ c = 123 ∨ c = 125
/-- the pairs' numbers off the pile, their primes' product -/
def popN : List Int → Int → Option (Int × List Int)
  | [], _ => none
  | t :: r, n => if 256 ≤ t then (if t ≤ 274 then popN r (n * PR.getD (t - 256).toNat 1) else none) else some (n, t :: r)
/-- what is told of a text's rest -/
def run : List Nat → List Int → List Nat → List Int → Option (List Int)
  | [], _, _, _ => none
  | c :: r, told, ws, pile =>
    if c = 40 ∨ c = 91 ∨ c = 123 then run r (told ++ [0]) (told.length :: ws) (sy c :: pile)
    else match popN pile 1 with
      | none => none
      | some (n, pile') =>
        if c = 41 ∨ c = 93 ∨ c = 125 then
          match ws, pile' with
          | w :: ws', t :: pile'' => if t = sy c - 1 ∧ w < told.length then run r (told.set w n) ws' ((256 + n - 1) :: pile'') else none
          | _, _ => none
        else if c = 32 then (if ws = [] then some (n :: told) else none) else none
theorem opn_or (k : Nat) : opn k = 40 ∨ opn k = 91 ∨ opn k = 123 := by unfold opn; (repeat' split) <;> simp
theorem cls_or (k : Nat) : cls k = 41 ∨ cls k = 93 ∨ cls k = 125 := by unfold cls; (repeat' split) <;> simp
theorem cls_not (k : Nat) : ¬ (cls k = 40 ∨ cls k = 91 ∨ cls k = 123) := by unfold cls; (repeat' split) <;> simp
theorem sy_pair (k : Nat) : sy (opn k) = sy (cls k) - 1 := by
  by_cases h0 : k = 0
  · subst h0; decide
  · by_cases h1 : k = 1
    · subst h1; decide
    · have e1 : opn k = 123 := by simp [opn, h0, h1]
      have e2 : cls k = 125 := by simp [cls, h0, h1]
      rw [e1, e2]; decide
theorem sy_small (c : Nat) : sy c < 256 := by unfold sy; (repeat' split) <;> decide
theorem popN_tops : ∀ (ts : List Int) (n t : Int) (r : List Int), (∀ x ∈ ts, 1 ≤ x ∧ x ≤ 19) → t < 256 → popN (ts.map (256 + · - 1) ++ t :: r) n = some (n * (ts.map prm).foldr (· * ·) 1, t :: r)
  | [], n, t, r, _, ht => by
    have : ¬ 256 ≤ t := by omega
    simp [popN, this]
  | x :: ts, n, t, r, h, ht => by
    have hx := h x (.head _)
    have h1 : (256 : Int) ≤ 256 + x - 1 := by omega
    have h2 : (256 : Int) + x - 1 ≤ 274 := by omega
    simp only [List.map_cons, List.cons_append, popN, h1, h2, if_true, List.foldr_cons]
    rw [popN_tops ts _ t r (fun y hy => h y (.tail _ hy)) ht]
    have e : (256 + x - 1 - 256).toNat = (x - 1).toNat := by congr 1; omega
    rw [e, Int.mul_assoc]
    rfl
theorem foldr_tops : ∀ f : Fo, (f.tops.map prm).foldr (· * ·) 1 = f.num
  | .nil => rfl
  | .cons k a b => by simp only [Fo.tops, List.map_cons, List.foldr_cons, foldr_tops b, Fo.num]
theorem foldr_mul (l : List Int) (a : Int) : l.foldr (· * ·) a = l.foldr (· * ·) 1 * a := by
  induction l with
  | nil => simp
  | cons x r ih => simp only [List.foldr_cons]; rw [ih, Int.mul_assoc]
theorem foldr_rev : ∀ l : List Int, l.reverse.foldr (· * ·) 1 = l.foldr (· * ·) 1
  | [] => rfl
  | x :: r => by
    rw [List.reverse_cons, List.foldr_append]
    simp only [List.foldr_cons, List.foldr_nil]
    rw [foldr_mul, foldr_rev r, Int.mul_one, Int.mul_comm]
theorem Fo.tops_fit : ∀ f : Fo, f.fits → ∀ x ∈ f.tops, 1 ≤ x ∧ x ≤ 19
  | nil, _, _, h => nomatch h
  | cons k a b, ⟨h1, _, h3⟩, x, hx => by
    rcases List.mem_cons.mp hx with rfl | hx
    · exact ⟨a.num_pos, h1⟩
    · exact tops_fit b h3 x hx
theorem set_mid (a b : List Int) (x y : Int) : (a ++ x :: b).set a.length y = a ++ y :: b := by
  induction a with
  | nil => rfl
  | cons z a ih => simp [ih]
/-- a text's pairs told -/
theorem run_txt : ∀ (f : Fo) (r : List Nat) (told : List Int) (ws : List Nat) (t : Int) (pile : List Int) (ts : List Int), f.fits →
    run (f.txt ++ r) told ws (ts ++ t :: pile) = run r (told ++ f.pre) ws (f.tops.reverse.map (256 + · - 1) ++ (ts ++ t :: pile))
  | .nil, r, told, ws, t, pile, ts, _ => by simp [Fo.txt, Fo.pre, Fo.tops]
  | .cons k a b, r, told, ws, t, pile, ts, ⟨h1, h2, h3⟩ => by
    simp only [Fo.txt, Fo.pre, Fo.tops, List.cons_append, List.append_assoc]
    rw [run, if_pos (opn_or k)]
    have ia := run_txt a (cls k :: (b.txt ++ r)) (told ++ [0]) (told.length :: ws) (sy (opn k)) (ts ++ t :: pile) [] h2
    simp only [List.nil_append] at ia
    rw [ia, run, if_neg (cls_not k)]
    have hp := popN_tops a.tops.reverse 1 (sy (opn k)) (ts ++ t :: pile) (fun x hx => a.tops_fit h2 x (List.mem_reverse.mp hx)) (sy_small _)
    have he : (a.tops.reverse.map prm).foldr (· * ·) 1 = a.num := by rw [List.map_reverse, foldr_rev, foldr_tops]
    rw [he, Int.one_mul] at hp
    rw [hp]
    have hlt : told.length < (told ++ [0] ++ a.pre).length := by simp
    simp only [cls_or k, if_true, sy_pair k, hlt, and_self]
    have e1 : (told ++ [0] ++ a.pre).set told.length a.num = told ++ a.num :: a.pre := by
      rw [List.append_assoc]; exact set_mid told a.pre 0 a.num
    rw [e1]
    have ib := run_txt b r (told ++ a.num :: a.pre) ws t pile ((256 + a.num - 1) :: ts) h3
    simp only [List.cons_append] at ib
    rw [ib]
    simp
theorem run_all (f : Fo) (h : f.fits) : run (f.txt ++ [32]) [] [] [255] = some (f.num :: f.pre) := by
  have := run_txt f [32] [] [] 255 [] [] h
  simp only [List.nil_append] at this
  rw [this, run, if_neg (by decide)]
  have hp := popN_tops f.tops.reverse 1 255 [] (fun x hx => f.tops_fit h x (List.mem_reverse.mp hx)) (by decide)
  have he : (f.tops.reverse.map prm).foldr (· * ·) 1 = f.num := by rw [List.map_reverse, foldr_rev, foldr_tops]
  rw [he, Int.one_mul] at hp
  rw [hp]
  rfl
end Mine
end
section
namespace Mine
/-- the k-th prime of the table, from 0 -/
def pn (k : Nat) : Nat := (PR.getD k 1).toNat
def low (n : Nat) : Option Nat := (List.range 19).find? fun k => n % pn k == 0
/-- the written forest of a number, by fuel -/
def Wf : Nat → Nat → Fo
  | 0, _ => .nil
  | f + 1, n => match low n with
    | none => .nil
    | some k => .cons 1 (Wf f (k + 1)) (Wf f (n / pn k))
def W (n : Nat) : Fo := Wf 8 n
def Fo.fitsB : Fo → Bool
  | .nil => true
  | .cons _ a b => decide (a.num ≤ 19) && (a.fitsB && b.fitsB)
def Fo.okB : Fo → Bool
  | .nil => true
  | .cons k a b => decide (k < 3) && (a.okB && b.okB)
theorem Fo.fits_of : ∀ f : Fo, f.fitsB = true → f.fits
  | .nil, _ => trivial
  | .cons _ a b, h => by
    simp only [Fo.fitsB, Bool.and_eq_true, decide_eq_true_eq] at h
    exact ⟨h.1, a.fits_of h.2.1, b.fits_of h.2.2⟩
theorem Fo.ok_of : ∀ f : Fo, f.okB = true → f.ok
  | .nil, _ => trivial
  | .cons _ a b, h => by
    simp only [Fo.okB, Bool.and_eq_true, decide_eq_true_eq] at h
    exact ⟨h.1, a.ok_of h.2.1, b.ok_of h.2.2⟩
theorem W_allB : ∀ n, n < 68 → 1 ≤ n → (W n).num = (n : Int) ∧ (W n).fitsB = true ∧ (W n).okB = true ∧ (W n).size ≤ 10 := by decide +kernel
theorem W_all (n : Nat) (h : n < 68) (h1 : 1 ≤ n) : (W n).num = (n : Int) ∧ (W n).fits ∧ (W n).ok ∧ (W n).size ≤ 10 := by
  obtain ⟨a, b, c, d⟩ := W_allB n h h1
  exact ⟨a, Fo.fits_of _ b, Fo.ok_of _ c, d⟩
theorem low_at {n k : Nat} (hk : k < 19) (hj : ∀ j, j < k → ¬ n % pn j = 0) (h : n % pn k = 0) : low n = some k := by
  unfold low
  rw [List.find?_range_eq_some]
  exact ⟨by simpa using h, List.mem_range.mpr hk, fun j h1 => by simpa using hj j h1⟩
theorem W_low : ∀ n, n < 68 → 1 ≤ n → ∀ k, k < 19 → low n = some k → (W n).txt = 91 :: ((W (k + 1)).txt ++ 93 :: (W (n / pn k)).txt) := by decide +kernel
theorem W_step {n : Nat} (hn : n < 68) (h1 : 1 ≤ n) {k : Nat} (hk : k < 19) (hj : ∀ j, j < k → ¬ n % pn j = 0) (h : n % pn k = 0) : (W n).txt = 91 :: ((W (k + 1)).txt ++ 93 :: (W (n / pn k)).txt) := W_low n hn h1 k hk (low_at hk hj h)
theorem W_div : ∀ n, n < 68 → 1 ≤ n → ∀ k, k < 19 → n % pn k = 0 → 1 ≤ n / pn k ∧ n / pn k < n ∧ k + 1 < n := by decide +kernel
theorem W_keep {n k : Nat} (hj : ∀ j, j < k → ¬ n % pn j = 0) (h : n % pn k = 0) : ∀ j, j < k → ¬ (n / pn k) % pn j = 0 := by
  intro j hjk e
  refine hj j hjk (Nat.mod_eq_zero_of_dvd ?_)
  have h1 : pn j ∣ n / pn k := Nat.dvd_of_mod_eq_zero e
  have h2 : n / pn k ∣ n := Nat.div_dvd_of_dvd (Nat.dvd_of_mod_eq_zero h)
  exact Nat.dvd_trans h1 h2
theorem W_end : ∀ n, n < 68 → 1 ≤ n → (∀ j, j < 19 → ¬ n % pn j = 0) → n = 1 := by decide +kernel
theorem W_one : (W 1).txt = [] := by decide +kernel
theorem pn_at : ∀ k, k < 19 → PR[k]? = some (pn k : Int) ∧ 2 ≤ pn k ∧ pn k ≤ 67 := by decide +kernel
end Mine
end
section
namespace Mine
/-- one more tab after b blanks -/
def bump (cnt : List Int) (b : Nat) : List Int :=
  let c := if cnt.length ≤ b then cnt ++ List.replicate (b - cnt.length + 1) 0 else cnt
  c.set b (c.getD b 0 + 1)
/-- what Whitespace counts: n, nt, b, count -/
def scan : List Nat → Nat → Nat → Nat → List Int → Nat × Nat × Nat × List Int
  | [], n, nt, b, c => (n, nt, b, c)
  | d :: r, n, nt, b, c => if d = 32 then scan r (n + 1) nt (b + 1) c else if d = 9 then scan r (n + 1) (nt + 1) 0 (bump c b) else (n, nt, b, c)
/-- the norm of a text: the counts, the blanks at the end -/
def normOf (x : List Nat) : List Int × Nat := ((scan x 0 0 0 []).2.2.2, (scan x 0 0 0 []).2.2.1)
end Mine
end
section
namespace Mine
/-- rows, each with its end -/
def rowTxt : List (List Nat) → List Nat
  | [] => []
  | r :: t => r ++ 13 :: 10 :: rowTxt t
/-- a row quoted -/
def dotRow : List Nat → List Nat
  | [] => []
  | c :: r => if c = 46 then 46 :: 46 :: r else c :: r
def clean (r : List Nat) : Prop := ∀ c ∈ r, c ≠ 13 ∧ c ≠ 10
theorem rowTxt_app : ∀ a b : List (List Nat), rowTxt (a ++ b) = rowTxt a ++ rowTxt b
  | [], _ => rfl
  | r :: a, b => by simp [rowTxt, rowTxt_app a b]
theorem norm_oth {c : Nat} (h1 : c ≠ 13) (h2 : c ≠ 10) (r : List Nat) : norm (c :: r) = c :: norm r := by
  by_cases hr : ∃ r', r = 10 :: r'
  · obtain ⟨r', rfl⟩ := hr
    rw [norm, if_neg h1, if_neg h2]
  · rw [norm, if_neg h1, if_neg h2]
    intro r' e
    exact hr ⟨r', e⟩
theorem norm_ten (r : List Nat) : norm (10 :: r) = 13 :: 10 :: norm r := by
  by_cases hr : ∃ r', r = 10 :: r'
  · obtain ⟨r', rfl⟩ := hr
    rw [norm, if_neg (by decide), if_pos rfl]
  · rw [norm, if_neg (by decide), if_pos rfl]
    intro r' e
    exact hr ⟨r', e⟩
theorem norm_cr (t : List Nat) (h : ∀ u, t ≠ 10 :: u) : norm (13 :: t) = 13 :: 10 :: norm t := by
  rw [norm, if_pos rfl]
  exact fun r' e => h r' e
theorem norm_crlf (t : List Nat) : norm (13 :: 10 :: t) = 13 :: 10 :: norm t := by
  rw [norm, if_pos rfl]
theorem norm_row : ∀ (r t : List Nat), clean r → norm (r ++ 13 :: 10 :: t) = r ++ 13 :: 10 :: norm t
  | [], t, _ => norm_crlf t
  | c :: r, t, h => by
    have h1 := h c (.head _)
    have h2 := norm_row r t fun d hd => h d (.tail _ hd)
    rw [List.cons_append, norm_oth h1.1 h1.2, h2]
    rfl
theorem norm_rows : ∀ rs : List (List Nat), (∀ r ∈ rs, clean r) → norm (rowTxt rs) = rowTxt rs
  | [], _ => by simp [rowTxt, norm]
  | r :: rs, h => by
    rw [rowTxt, norm_row r _ (h r (.head _)), norm_rows rs fun q hq => h q (.tail _ hq)]
theorem dots_in : ∀ (r t : List Nat), clean r → dots false (r ++ 13 :: 10 :: t) = r ++ 13 :: 10 :: dots true t
  | [], t, _ => by simp [dots]
  | c :: r, t, h => by
    have h1 := h c (.head _)
    have h2 := dots_in r t fun d hd => h d (.tail _ hd)
    have e : (c == 10) = false := by simpa using h1.2
    rw [List.cons_append, dots, if_neg (by simp), e, h2]
    rfl
theorem dots_row : ∀ (r t : List Nat), clean r → dots true (r ++ 13 :: 10 :: t) = dotRow r ++ 13 :: 10 :: dots true t
  | [], t, _ => by simp [dots, dotRow]
  | c :: r, t, h => by
    have h1 := h c (.head _)
    have h2 := dots_in r t fun d hd => h d (.tail _ hd)
    have e : (c == 10) = false := by simpa using h1.2
    by_cases hc : c = 46
    · rw [List.cons_append, dots, if_pos ⟨rfl, hc⟩, h2, dotRow, if_pos hc]; rfl
    · rw [List.cons_append, dots, if_neg (by simp [hc]), e, h2, dotRow, if_neg hc]; rfl
theorem dots_rows : ∀ rs : List (List Nat), (∀ r ∈ rs, clean r) → dots true (rowTxt rs) = rowTxt (rs.map dotRow)
  | [], _ => by simp [rowTxt, dots]
  | r :: rs, h => by
    rw [rowTxt, dots_row r _ (h r (.head _)), dots_rows rs fun q hq => h q (.tail _ hq)]
    rfl
def isEnd (e : List Nat) : Prop := e = [10] ∨ e = [13] ∨ e = [13, 10]
theorem rows_head (rs : List (List Nat)) (h : ∀ r ∈ rs, clean r) : ∀ t, rowTxt rs ≠ 10 :: t := by
  intro t e
  match rs with
  | [] => simp [rowTxt] at e
  | [] :: rs => simp [rowTxt] at e
  | (c :: r) :: rs =>
    simp only [rowTxt, List.cons_append, List.cons.injEq] at e
    exact (h (c :: r) (.head _) c (.head _)).2 e.1
theorem norm_block {e : List Nat} (he : isEnd e) {c : Nat} (hc : c ≠ 13 ∧ c ≠ 10) (rs : List (List Nat)) (h : ∀ r ∈ rs, clean r) : norm (46 :: (e ++ 13 :: c :: 46 :: (e ++ rowTxt rs))) = rowTxt ([46] :: [] :: [c, 46] :: rs) := by
  have hn := norm_rows rs h
  have hh := rows_head rs h
  have n46 : ∀ t, norm (46 :: t) = 46 :: norm t := norm_oth (by decide) (by decide)
  have nc : ∀ t, norm (c :: t) = c :: norm t := norm_oth hc.1 hc.2
  have n10 := norm_ten
  have n1310 := norm_crlf
  have ncr : ∀ t, norm (13 :: c :: t) = 13 :: 10 :: norm (c :: t) := fun t => norm_cr _ fun u e => hc.2 (List.cons.inj e).1
  have n13 : ∀ t, norm (13 :: 13 :: t) = 13 :: 10 :: norm (13 :: t) := fun t => norm_cr _ fun u e => by simp at e
  rcases he with rfl | rfl | rfl
  · simp only [List.cons_append, List.nil_append, n46, n10, ncr, nc, hn, rowTxt]
  · simp only [List.cons_append, List.nil_append, n46, n13, ncr, nc, norm_cr _ hh, hn, rowTxt]
  · simp only [List.cons_append, List.nil_append, n46, n1310, ncr, nc, hn, rowTxt]
end Mine
end
section
namespace Mine
/-- the rows of a forest, quoted once -/
def rowsOf : Fo → List (List Nat)
  | .nil => []
  | .cons k a b => [46, 46] :: [] :: [opn k, 46] :: ((rowsOf a).map dotRow ++ rowsOf b)
def marksOf : Fo → List (List Nat)
  | .nil => []
  | .cons k a b => [] :: [opn k, 46] :: (marksOf a ++ marksOf b)
/-- the pile of texts and the marks after a text, with bounds -/
def pileRun (ends : Nat → List Nat) : List Nat → List (List Nat) → List (List Nat) → Option (List (List Nat) × List (List Nat))
  | [], p, m => some (p, m)
  | c :: r, p, m => if c = 40 ∨ c = 91 ∨ c = 123 then (if m.length < 20 then pileRun ends r ((46 :: (ends (m.length / 2) ++ 13 :: c :: 46 :: ends (m.length / 2))) :: p) (m ++ [[], [c, 46]]) else none)
    else match p with
      | b :: q :: p' => if b.length ≤ 400 ∧ q.length ≤ 400 then pileRun ends r ((q ++ dots true (norm b)) :: p') m else none
      | _ => none
theorem pile_open (ends : Nat → List Nat) {c : Nat} (h : c = 40 ∨ c = 91 ∨ c = 123) (r : List Nat) (p m : List (List Nat)) (hm : m.length < 20) : pileRun ends (c :: r) p m = pileRun ends r ((46 :: (ends (m.length / 2) ++ 13 :: c :: 46 :: ends (m.length / 2))) :: p) (m ++ [[], [c, 46]]) := by
  conv => lhs; unfold pileRun
  simp only [h, hm, if_true]
theorem pile_close (ends : Nat → List Nat) {c : Nat} (h : ¬ (c = 40 ∨ c = 91 ∨ c = 123)) (r b q : List Nat) (p m : List (List Nat)) (hb : b.length ≤ 400) (hq : q.length ≤ 400) : pileRun ends (c :: r) (b :: q :: p) m = pileRun ends r ((q ++ dots true (norm b)) :: p) m := by
  conv => lhs; unfold pileRun
  simp only [h, hb, hq, and_self, if_true, if_false]
theorem opn_cases (k : Nat) : opn k = 40 ∨ opn k = 91 ∨ opn k = 123 := by unfold opn; (repeat' split) <;> simp
theorem opn_end (k : Nat) : opn k ≠ 13 ∧ opn k ≠ 10 ∧ opn k ≠ 46 := by rcases opn_cases k with h | h | h <;> rw [h] <;> decide
theorem clean_dot {r : List Nat} (h : clean r) : clean (dotRow r) := by
  cases r with
  | nil => intro c hc; cases hc
  | cons d r =>
    rw [dotRow]
    split
    · intro c hc
      rcases List.mem_cons.mp hc with rfl | hc
      · decide
      · rcases List.mem_cons.mp hc with rfl | hc
        · decide
        · exact h c (.tail _ hc)
    · exact h
theorem rows_clean : ∀ f : Fo, ∀ r ∈ rowsOf f, clean r
  | .nil, _, h => by cases h
  | .cons k a b, r, h => by
    simp only [rowsOf, List.mem_cons, List.mem_append, List.mem_map] at h
    rcases h with rfl | rfl | rfl | ⟨q, hq, rfl⟩ | h
    · intro c hc; simp at hc; subst hc; decide
    · intro c hc; cases hc
    · intro c hc
      have := opn_end k
      simp at hc
      rcases hc with rfl | rfl
      · exact ⟨this.1, this.2.1⟩
      · decide
    · exact clean_dot (rows_clean a q hq)
    · exact rows_clean b r h
theorem block_quoted {e : List Nat} (he : isEnd e) (k : Nat) (a : Fo) : dots true (norm (46 :: (e ++ 13 :: opn k :: 46 :: e) ++ rowTxt (rowsOf a))) = rowTxt ([46, 46] :: [] :: [opn k, 46] :: (rowsOf a).map dotRow) := by
  have h := opn_end k
  have e1 : 46 :: (e ++ 13 :: opn k :: 46 :: e) ++ rowTxt (rowsOf a) = 46 :: (e ++ 13 :: opn k :: 46 :: (e ++ rowTxt (rowsOf a))) := by simp
  rw [e1, norm_block he ⟨h.1, h.2.1⟩ _ (rows_clean a), dots_rows]
  · simp [dotRow, h.2.2]
  · intro r hr
    simp only [List.mem_cons] at hr
    rcases hr with rfl | rfl | rfl | hr
    · intro c hc; simp at hc; subst hc; decide
    · intro c hc; cases hc
    · intro c hc
      simp at hc
      rcases hc with rfl | rfl
      · exact ⟨h.1, h.2.1⟩
      · decide
    · exact rows_clean a r hr
/-- the length of a forest's rows -/
def rlen (f : Fo) : Nat := (rowTxt (rowsOf f)).length
theorem dot_len (r : List Nat) : r.length ≤ (dotRow r).length := by
  cases r with
  | nil => exact Nat.le_refl _
  | cons d r => rw [dotRow]; split <;> simp
theorem rowTxt_dot : ∀ rs : List (List Nat), (rowTxt rs).length ≤ (rowTxt (rs.map dotRow)).length
  | [] => Nat.le_refl _
  | r :: rs => by
    have := dot_len r
    have := rowTxt_dot rs
    simp only [List.map_cons, rowTxt, List.length_append, List.length_cons]
    omega
theorem rlen_cons (k : Nat) (a b : Fo) : 10 + rlen a + rlen b ≤ rlen (.cons k a b) := by
  have := rowTxt_dot (rowsOf a)
  simp only [rlen, rowsOf, rowTxt, rowTxt_app, List.length_append, List.length_cons, List.length_nil]
  omega
theorem pile_forest {ends : Nat → List Nat} (he : ∀ i, isEnd (ends i)) : ∀ (f : Fo) (r q : List Nat) (p m : List (List Nat)), q.length + rlen f ≤ 400 → m.length + 2 * f.size ≤ 20 →
    pileRun ends (f.txt ++ r) (q :: p) m = pileRun ends r ((q ++ rowTxt (rowsOf f)) :: p) (m ++ marksOf f) ∧ (marksOf f).length = 2 * f.size
  | .nil, r, q, p, m, _, _ => by simp [Fo.txt, rowsOf, rowTxt, marksOf, Fo.size]
  | .cons k a b, r, q, p, m, h1, h2 => by
    have e1 : (Fo.cons k a b).txt ++ r = opn k :: (a.txt ++ (cls k :: (b.txt ++ r))) := by simp [Fo.txt]
    have hr := rlen_cons k a b
    simp only [Fo.size] at h2
    have hl : ∀ i, (ends i).length ≤ 2 := by
      intro i
      rcases he i with h | h | h <;> rw [h] <;> simp
    have hl2 := hl (m.length / 2)
    have hbl : (46 :: (ends (m.length / 2) ++ 13 :: opn k :: 46 :: ends (m.length / 2))).length ≤ 8 := by
      simp only [List.length_cons, List.length_append]; omega
    have ha := pile_forest he a (cls k :: (b.txt ++ r)) (46 :: (ends (m.length / 2) ++ 13 :: opn k :: 46 :: ends (m.length / 2))) (q :: p) (m ++ [[], [opn k, 46]]) (by omega) (by simp; omega)
    have hqb : rlen (.cons k a b) = (rowTxt ([46, 46] :: [] :: [opn k, 46] :: (rowsOf a).map dotRow)).length + rlen b := by
      simp [rlen, rowsOf, rowTxt, rowTxt_app]; omega
    have hb := pile_forest he b r (q ++ rowTxt ([46, 46] :: [] :: [opn k, 46] :: (rowsOf a).map dotRow)) p (m ++ [[], [opn k, 46]] ++ marksOf a) (by rw [List.length_append]; omega) (by rw [List.length_append, ha.2]; simp; omega)
    refine ⟨?_, ?_⟩
    · rw [e1, pile_open ends (opn_cases k) _ _ _ (by omega), ha.1, pile_close ends (cls_not k) _ _ _ _ _ (by rw [List.length_append]; show _ + rlen a ≤ 400; omega) (by omega), block_quoted (he _), hb.1]
      simp [rowsOf, marksOf, rowTxt, rowTxt_app]
    · simp only [marksOf, List.length_cons, List.length_append, ha.2, hb.2, Fo.size]; omega
theorem pile_all {ends : Nat → List Nat} (he : ∀ i, isEnd (ends i)) (f : Fo) (h1 : rlen f ≤ 400) (h2 : f.size ≤ 10) : pileRun ends f.txt [[]] [] = some ([rowTxt (rowsOf f)], marksOf f) := by
  have := (pile_forest he f [] [] [] [] (by simpa using h1) (by simp; omega)).1
  simpa [pileRun] using this
theorem len_dots : ∀ (l : List Nat) (b : Bool), (dots b l).length ≤ 2 * l.length
  | [], _ => by simp [dots]
  | c :: r, b => by
    rw [dots]
    split
    · have := len_dots r false
      simp only [List.length_cons]; omega
    · have := len_dots r (c == 10)
      simp only [List.length_cons]; omega
end Mine
end
section
namespace Mine
/-- a row's dots, each with a tab behind it -/
def tabs : Nat → List Nat
  | 0 => []
  | n + 1 => 46 :: 9 :: tabs n
/-- the blanks and the tab of each label -/
def lt : List Nat → List Nat
  | [] => []
  | l :: r => List.replicate l 32 ++ 9 :: lt r
theorem lt_app : ∀ a b, lt (a ++ b) = lt a ++ lt b
  | [], _ => rfl
  | l :: a, b => by simp [lt, lt_app a b]
def cnt (ls : List Nat) : List Int := ls.foldl bump []
theorem scan_blanks : ∀ (l : Nat) (r : List Nat) (n nt b : Nat) (c : List Int), scan (List.replicate l 32 ++ r) n nt b c = scan r (n + l) nt (b + l) c
  | 0, r, n, nt, b, c => by simp
  | l + 1, r, n, nt, b, c => by
    rw [List.replicate_succ, List.cons_append, scan, if_pos rfl, scan_blanks l]
    congr 1 <;> omega
theorem scan_lt : ∀ (ls r : List Nat) (n nt : Nat) (c : List Int), scan (lt ls ++ r) n nt 0 c = scan r (n + (lt ls).length) (nt + ls.length) 0 (ls.foldl bump c)
  | [], r, n, nt, c => by simp [lt]
  | l :: ls, r, n, nt, c => by
    rw [lt, List.append_assoc, scan_blanks, List.cons_append, scan, if_neg (by decide), if_pos rfl, scan_lt ls]
    simp only [Nat.zero_add, List.foldl_cons, List.length_append, List.length_replicate, List.length_cons]
    congr 1 <;> omega
theorem scan_tabs (k n nt b : Nat) (c : List Int) : scan (tabs k) n nt b c = (n, nt, b, c) := by
  cases k with
  | zero => rfl
  | succ k => rw [tabs, scan, if_neg (by decide), if_neg (by decide)]
theorem scan_lead (ls : List Nat) (k : Nat) : scan (lt ls ++ tabs k) 0 0 0 [] = ((lt ls).length, ls.length, 0, cnt ls) := by
  rw [scan_lt, scan_tabs]; simp [cnt]
theorem norm_lead (ls : List Nat) (k : Nat) : normOf (lt ls ++ tabs k) = (cnt ls, 0) := by
  unfold normOf; rw [scan_lead]
theorem norm_more (ls : List Nat) : normOf (lt ls ++ [32]) = (cnt ls, 1) := by
  unfold normOf
  rw [scan_lt]
  simp [scan, cnt]
/-- the places of the known leads that are equal -/
def hereOf (known : List (List Nat)) (x : List Nat) : List Nat := (List.range known.length).filter fun k => decide (normOf (known.getD k []) = normOf x)
/-- labels of a text's rows, the last row first; with bounds -/
def lrun : List Nat → List (List Nat) → List (List Nat) → List Nat → Option (List (List Nat) × List Nat)
  | [], _, known, labels => some (known, labels)
  | n :: r, kids, known, labels =>
    if n ≤ 17 ∧ known.length ≤ 40 ∧ labels.length ≤ 40 ∧ (∀ x ∈ kids, x.length ≤ 700) then
      match hereOf known (kids.getD (n + 1) [] ++ tabs n) with
      | [] => lrun r ((kids.set (n + 1) []).set n (kids.getD n [] ++ lt [known.length])) (known ++ [kids.getD (n + 1) [] ++ tabs n]) (known.length :: labels)
      | k :: _ => lrun r ((kids.set (n + 1) []).set n (kids.getD n [] ++ lt [k])) known (k :: labels)
    else none
/-- the lengths of a forest's dotted rows -/
def rl (d : Nat) : Fo → List Nat
  | .nil => []
  | .cons _ a b => d :: (rl (d + 1) a ++ rl d b)
end Mine
end
section
namespace Mine
theorem getD_app (a b : List Int) (i : Nat) : (a ++ b).getD i 0 = if i < a.length then a.getD i 0 else b.getD (i - a.length) 0 := by
  simp only [List.getD_eq_getElem?_getD, List.getElem?_append]
  split <;> rfl
theorem getD_rep (k i : Nat) : (List.replicate k (0 : Int)).getD i 0 = 0 := by
  simp only [List.getD_eq_getElem?_getD, List.getElem?_replicate]
  split <;> rfl
theorem bump_len (c : List Int) (b : Nat) : (bump c b).length = max c.length (b + 1) := by
  unfold bump
  simp only [List.length_set]
  split
  · simp only [List.length_append, List.length_replicate]; omega
  · omega
theorem bump_get (c : List Int) (b i : Nat) : (bump c b).getD i 0 = c.getD i 0 + if i = b then 1 else 0 := by
  unfold bump
  have key : ∀ d : List Int, b < d.length → (∀ j, d.getD j 0 = c.getD j 0) → (d.set b (d.getD b 0 + 1)).getD i 0 = c.getD i 0 + if i = b then 1 else 0 := by
    intro d hd he
    by_cases h : i = b
    · subst h
      rw [if_pos rfl, ← he]
      simp [List.getD_eq_getElem?_getD, hd]
    · rw [if_neg h, ← he]
      simp [List.getD_eq_getElem?_getD, List.getElem?_set, Ne.symm h]
  simp only
  split
  · refine key _ (by simp; omega) fun j => ?_
    rw [getD_app, getD_rep]
    split
    · rfl
    · rename_i h
      simp [List.getD_eq_getElem?_getD, List.getElem?_eq_none (by omega : c.length ≤ j)]
  · exact key _ (by omega) fun _ => rfl
theorem foldl_len : ∀ (ls : List Nat) (c : List Int) (m : Nat), (ls.foldl bump c).length ≤ m ↔ c.length ≤ m ∧ ∀ l ∈ ls, l + 1 ≤ m
  | [], c, m => by simp
  | l :: ls, c, m => by
    rw [List.foldl_cons, foldl_len ls, bump_len]
    rw [Nat.max_le, and_assoc]
    simp only [List.mem_cons, forall_eq_or_imp]
theorem foldl_get : ∀ (ls : List Nat) (c : List Int) (i : Nat), (ls.foldl bump c).getD i 0 = c.getD i 0 + (ls.count i : Int)
  | [], c, i => by simp
  | l :: ls, c, i => by
    rw [List.foldl_cons, foldl_get ls, bump_get, List.count_cons]
    by_cases h : i = l
    · subst h; simp; omega
    · have : (l == i) = false := by simpa using Ne.symm h
      simp [h, this]
theorem list_ext (a b : List Int) (hl : a.length = b.length) (h : ∀ i, a.getD i 0 = b.getD i 0) : a = b := by
  refine List.ext_getElem hl fun i h1 h2 => ?_
  have := h i
  simpa [List.getD_eq_getElem?_getD, h1, h2] using this
/-- equal counts: the same labels -/
theorem cnt_perm {a b : List Nat} : cnt a = cnt b ↔ a.Perm b := by
  constructor
  · intro h
    rw [List.perm_iff_count]
    intro i
    have := congrArg (fun c => c.getD i 0) h
    simp only [cnt, foldl_get, List.getD_nil, Int.zero_add] at this
    omega
  · intro h
    refine list_ext _ _ ?_ fun i => ?_
    · refine Nat.le_antisymm ?_ ?_
      · refine (foldl_len a [] _).mpr ⟨Nat.zero_le _, fun l hl => ?_⟩
        exact ((foldl_len b [] _).mp (Nat.le_refl _)).2 l (h.mem_iff.mp hl)
      · refine (foldl_len b [] _).mpr ⟨Nat.zero_le _, fun l hl => ?_⟩
        exact ((foldl_len a [] _).mp (Nat.le_refl _)).2 l (h.mem_iff.mpr hl)
    · simp only [cnt, foldl_get, h.count_eq]
/-- the product of the primes of some labels' numbers -/
def prod (xs : List Int) : Int := (xs.map prm).foldr (· * ·) 1
theorem prod_perm {a b : List Int} (h : a.Perm b) : prod a = prod b := by
  induction h with
  | nil => rfl
  | cons x _ ih => simp only [prod, List.map_cons, List.foldr_cons] at *; rw [ih]
  | swap x y l => simp only [prod, List.map_cons, List.foldr_cons]; rw [← Int.mul_assoc, ← Int.mul_assoc, Int.mul_comm (prm y)]
  | trans _ _ h1 h2 => exact h1.trans h2
def small (x : Int) : Prop := 1 ≤ x ∧ x ≤ 19
theorem small_nat {x : Int} (h : small x) : ∃ k : Nat, k < 19 ∧ x = (k : Int) + 1 := ⟨(x - 1).toNat, by have := h.1; have := h.2; omega, by have := h.1; omega⟩
theorem prm_at {k : Nat} (h : k < 19) : prm ((k : Int) + 1) = PR.getD k 1 := by
  unfold prm
  congr 1
  omega
theorem cop_tab : ∀ i, i < 19 → ∀ j, j < 19 → i ≠ j → Nat.gcd (PR.getD i 1).toNat (PR.getD j 1).toNat = 1 := by decide +kernel
theorem ge_tab : ∀ i, i < 19 → 2 ≤ PR.getD i 1 := by decide +kernel
theorem prm_two {x : Int} (h : small x) : 2 ≤ prm x := by
  obtain ⟨k, hk, rfl⟩ := small_nat h
  rw [prm_at hk]; exact ge_tab k hk
theorem cop {x y : Int} (hx : small x) (hy : small y) (h : x ≠ y) : Int.gcd (prm x) (prm y) = 1 := by
  obtain ⟨i, hi, rfl⟩ := small_nat hx
  obtain ⟨j, hj, rfl⟩ := small_nat hy
  rw [prm_at hi, prm_at hj]
  have h1 := cop_tab i hi j hj (by omega)
  have h2 := ge_tab i hi
  have h3 := ge_tab j hj
  unfold Int.gcd
  rw [show (PR.getD i 1).natAbs = (PR.getD i 1).toNat by omega, show (PR.getD j 1).natAbs = (PR.getD j 1).toNat by omega]
  exact h1
theorem cop_prod {x : Int} (hx : small x) : ∀ ys : List Int, (∀ y ∈ ys, small y) → x ∉ ys → Int.gcd (prm x) (prod ys) = 1
  | [], _, _ => by simp [prod]
  | y :: ys, hs, hn => by
    have h1 := cop hx (hs y (.head _)) (fun e => hn (e ▸ .head _))
    have h2 := cop_prod hx ys (fun z hz => hs z (.tail _ hz)) (fun h => hn (.tail _ h))
    show Int.gcd (prm x) (prm y * prod ys) = 1
    unfold Int.gcd at *
    rw [Int.natAbs_mul]
    exact Nat.Coprime.mul_right h1 h2
/-- unique factors over the table -/
theorem prod_inj : ∀ xs ys : List Int, (∀ x ∈ xs, small x) → (∀ y ∈ ys, small y) → prod xs = prod ys → xs.Perm ys
  | [], [], _, _, _ => .nil
  | [], y :: ys, _, hy, h => by
    exfalso
    have h1 := prm_two (hy y (.head _))
    have h2 : prm y ∣ prod (y :: ys) := ⟨prod ys, rfl⟩
    rw [← h] at h2
    have h3 : prm y ∣ 1 := h2
    have := Int.le_of_dvd (by decide) h3
    omega
  | x :: xs, ys, hx, hy, h => by
    have hxs := hx x (.head _)
    have h2 := prm_two hxs
    by_cases hm : x ∈ ys
    · have hp := List.perm_cons_erase hm
      have e : prod ys = prm x * prod (ys.erase x) := prod_perm hp
      have e2 : prod (x :: xs) = prm x * prod xs := rfl
      rw [e, e2] at h
      have h3 := Int.eq_of_mul_eq_mul_left (by omega) h
      exact (List.Perm.cons x (prod_inj xs (ys.erase x) (fun z hz => hx z (.tail _ hz)) (fun z hz => hy z (List.mem_of_mem_erase hz)) h3)).trans hp.symm
    · exfalso
      have h1 := cop_prod hxs ys hy hm
      have h3 : prm x ∣ prod ys := by rw [← h]; exact ⟨prod xs, rfl⟩
      have h4 : (prm x).natAbs ∣ Nat.gcd (prm x).natAbs (prod ys).natAbs := Nat.dvd_gcd (Nat.dvd_refl _) (Int.natAbs_dvd_natAbs.mpr h3)
      have h5 : Nat.gcd (prm x).natAbs (prod ys).natAbs = 1 := h1
      rw [h5] at h4
      have := Nat.le_of_dvd (by decide) h4
      omega
end Mine
end
section
namespace Mine
/-- known leads, each with the number that it stands for -/
def Inv (known : List (List Nat)) (N : List Int) : Prop :=
  known.length = N.length ∧ N.Nodup ∧ ∀ i, i < N.length → ∃ ls n, known.getD i [] = lt ls ++ tabs n ∧ (∀ l ∈ ls, l < N.length ∧ small (N.getD l 0)) ∧ N.getD i 0 = prod (ls.map fun l => N.getD l 0)
theorem pre_get {N N' : List Int} (h : N <+: N') {l : Nat} (hl : l < N.length) : N'.getD l 0 = N.getD l 0 := by
  obtain ⟨t, rfl⟩ := h
  rw [getD_app, if_pos hl]
theorem pre_map {N N' : List Int} (h : N <+: N') {ls : List Nat} (hl : ∀ l ∈ ls, l < N.length) : (ls.map fun l => N'.getD l 0) = ls.map fun l => N.getD l 0 :=
  List.map_congr_left fun l hm => pre_get h (hl l hm)
theorem getD_inj {N : List Int} (h : N.Nodup) {i j : Nat} (hi : i < N.length) (hj : j < N.length) (e : N.getD i 0 = N.getD j 0) : i = j := by
  simp only [List.getD_eq_getElem?_getD, hi, hj, getElem?_pos, Option.getD_some] at e
  exact (List.getElem?_inj hi h).mp (by simp only [hi, hj, getElem?_pos, e])
theorem map_perm {N : List Int} (h : N.Nodup) {a b : List Nat} (ha : ∀ l ∈ a, l < N.length) (hb : ∀ l ∈ b, l < N.length) (p : (a.map fun l => N.getD l 0).Perm (b.map fun l => N.getD l 0)) : a.Perm b := by
  have key : ∀ c : List Nat, (∀ l ∈ c, l < N.length) → (c.map fun l => N.getD l 0).map (fun v => N.findIdx (· == v)) = c := by
    intro c hc
    rw [List.map_map]
    conv => rhs; rw [← List.map_id c]
    refine List.map_congr_left fun l hl => ?_
    have hlt := hc l hl
    have h1 : N.findIdx (· == N.getD l 0) < N.length := by
      rw [List.findIdx_lt_length]
      exact ⟨N.getD l 0, by simp [List.getD_eq_getElem?_getD, hlt], by simp⟩
    have h2 := List.findIdx_getElem (w := h1)
    refine getD_inj h h1 hlt ?_
    show N.getD (N.findIdx (· == N.getD l 0)) 0 = N.getD l 0
    generalize N.findIdx (· == N.getD l 0) = j at h1 h2
    have h3 : N.getD j 0 = N[j] := by simp [List.getD_eq_getElem?_getD, h1]
    rw [h3]
    exact eq_of_beq h2
  rw [← key a ha, ← key b hb]
  exact p.map _
theorem here_iff {known : List (List Nat)} {N : List Int} (I : Inv known N) {ls : List Nat} {n k : Nat} (hls : ∀ l ∈ ls, l < N.length ∧ small (N.getD l 0)) (hk : k < N.length) :
    normOf (known.getD k []) = normOf (lt ls ++ tabs n) ↔ N.getD k 0 = prod (ls.map fun l => N.getD l 0) := by
  obtain ⟨_, hn, h⟩ := I
  obtain ⟨ls', n', e, hs, ev⟩ := h k hk
  rw [e, norm_lead, norm_lead, ev]
  constructor
  · intro hc
    exact prod_perm ((cnt_perm.mp (Prod.mk.inj hc).1).map _)
  · intro hp
    have := prod_inj _ _ (by intro x hx; obtain ⟨l, hl, rfl⟩ := List.mem_map.mp hx; exact (hs l hl).2) (by intro x hx; obtain ⟨l, hl, rfl⟩ := List.mem_map.mp hx; exact (hls l hl).2) hp
    rw [cnt_perm.mpr (map_perm hn (fun l hl => (hs l hl).1) (fun l hl => (hls l hl).1) this)]
theorem mem_here {known : List (List Nat)} {x : List Nat} {k : Nat} : k ∈ hereOf known x ↔ k < known.length ∧ normOf (known.getD k []) = normOf x := by
  simp [hereOf]
/-- one row -/
theorem lrun_row {known : List (List Nat)} {N : List Int} (I : Inv known N) {kids : List (List Nat)} {d : Nat} {la labels r : List Nat} (h : kids.getD (d + 1) [] = lt la) (hla : ∀ l ∈ la, l < N.length ∧ small (N.getD l 0))
    (h1 : d ≤ 17) (h2 : known.length ≤ 40) (h3 : labels.length ≤ 40) (h4 : ∀ x ∈ kids, x.length ≤ 700) :
    ∃ i known' N', lrun (d :: r) kids known labels = lrun r ((kids.set (d + 1) []).set d (kids.getD d [] ++ lt [i])) known' (i :: labels) ∧ Inv known' N' ∧ N <+: N' ∧ i < N'.length ∧ N'.getD i 0 = prod (la.map fun l => N.getD l 0) ∧
      known'.length ≤ known.length + 1 ∧ i ≤ known.length ∧ known <+: known' := by
  rw [lrun, if_pos ⟨h1, h2, h3, h4⟩, h]
  obtain ⟨hlen, hnd, hI⟩ := I
  cases hh : hereOf known (lt la ++ tabs d) with
  | cons k t =>
    have hm := mem_here.mp (show k ∈ hereOf known (lt la ++ tabs d) by rw [hh]; exact .head _)
    have hkN : k < N.length := by omega
    refine ⟨k, known, N, rfl, ⟨hlen, hnd, hI⟩, List.prefix_refl _, hkN, (here_iff ⟨hlen, hnd, hI⟩ hla hkN).mp hm.2, by omega, by omega, List.prefix_refl _⟩
  | nil =>
    have hnm : prod (la.map fun l => N.getD l 0) ∉ N := by
      intro hm
      obtain ⟨k, hk, e⟩ := List.getElem_of_mem hm
      have hk' : N.getD k 0 = prod (la.map fun l => N.getD l 0) := by rw [← e]; simp [List.getD_eq_getElem?_getD, hk]
      have := mem_here.mpr ⟨(by omega : k < known.length), (here_iff ⟨hlen, hnd, hI⟩ (n := d) hla hk).mpr hk'⟩
      rw [hh] at this
      cases this
    have hpre : N <+: N ++ [prod (la.map fun l => N.getD l 0)] := List.prefix_append _ _
    refine ⟨known.length, known ++ [lt la ++ tabs d], N ++ [prod (la.map fun l => N.getD l 0)], rfl, ⟨by simp [hlen], ?_, ?_⟩, hpre, by simp [hlen], ?_, by simp, by omega, List.prefix_append _ _⟩
    · rw [List.nodup_append]
      refine ⟨hnd, by simp, ?_⟩
      intro a ha b hb e
      rw [List.mem_singleton.mp hb] at e
      exact hnm (e ▸ ha)
    · intro i hi
      simp only [List.length_append, List.length_singleton] at hi
      by_cases hil : i < N.length
      · obtain ⟨ls, n, e, hs, ev⟩ := hI i hil
        refine ⟨ls, n, ?_, ?_, ?_⟩
        · rw [← e]
          simp only [List.getD_eq_getElem?_getD, List.getElem?_append, show i < known.length by omega, if_true]
        · intro l hl
          have := hs l hl
          rw [pre_get hpre this.1]
          exact ⟨by simp; omega, this.2⟩
        · rw [pre_get hpre hil, ev, pre_map hpre fun l hl => (hs l hl).1]
      · obtain rfl : i = N.length := by omega
        refine ⟨la, d, ?_, ?_, ?_⟩
        · rw [← hlen]
          simp [List.getD_eq_getElem?_getD]
        · intro l hl
          have := hla l hl
          rw [pre_get hpre this.1]
          exact ⟨by simp; omega, this.2⟩
        · rw [pre_map hpre fun l hl => (hla l hl).1]
          simp [List.getD_eq_getElem?_getD]
    · rw [hlen]
      simp [List.getD_eq_getElem?_getD]
theorem set_self (kids : List (List Nat)) (d : Nat) : kids.set d (kids.getD d []) = kids := by
  by_cases h : d < kids.length
  · simp [List.getD_eq_getElem?_getD, h]
  · rw [List.set_eq_of_length_le (by omega)]
theorem getD_set (kids : List (List Nat)) (i j : Nat) (x : List Nat) (h : i < kids.length) : (kids.set i x).getD j [] = if i = j then x else kids.getD j [] := by
  simp only [List.getD_eq_getElem?_getD, List.getElem?_set]
  by_cases e : i = j
  · subst e; simp [h]
  · simp [e]
theorem mem_set {kids : List (List Nat)} {i : Nat} {x y : List Nat} (h : y ∈ kids.set i x) : y ∈ kids ∨ y = x := List.mem_or_eq_of_mem_set h
theorem mem_getD {kids : List (List Nat)} {i : Nat} (h : i < kids.length) : kids.getD i [] ∈ kids := by
  simp [List.getD_eq_getElem?_getD, h]
theorem lt_one (i : Nat) : (lt [i]).length = i + 1 := by simp [lt]
/-- the rows of a forest -/
theorem lrun_forest : ∀ (f : Fo) (d : Nat) (r : List Nat) (kids known : List (List Nat)) (labels : List Nat) (N : List Int), f.fits → Inv known N → kids.length = 20 → d + f.size ≤ 17 → (∀ j, d < j → kids.getD j [] = []) → known.length + f.size ≤ 40 → labels.length + f.size ≤ 15 → (∀ x ∈ kids, x.length ≤ 41 * labels.length) →
    ∃ known' N' labs ls', lrun ((rl d f).reverse ++ r) kids known labels = lrun r (kids.set d (kids.getD d [] ++ lt ls')) known' (labs ++ labels) ∧ Inv known' N' ∧ N <+: N' ∧ known <+: known' ∧ (∀ l ∈ labs, l < N'.length) ∧ (labs.map fun l => N'.getD l 0) = f.pre ∧
      (∀ l ∈ ls', l < N'.length) ∧ (ls'.map fun l => N'.getD l 0) = f.tops.reverse ∧ known'.length ≤ known.length + f.size ∧ labs.length = f.size ∧ (kids.getD d [] ++ lt ls').length ≤ 41 * (labels.length + f.size)
  | .nil, d, r, kids, known, labels, N, _, I, hk, hd, he, h1, h2, h3 => by
    refine ⟨known, N, [], [], by rw [lt, List.append_nil, set_self]; rfl, I, List.prefix_refl _, List.prefix_refl _, by simp, by simp [Fo.pre], by simp, by simp [Fo.tops], by simp, rfl, ?_⟩
    simp only [lt, List.append_nil, Fo.size, Nat.add_zero]
    exact h3 _ (mem_getD (by simp only [Fo.size] at hd; omega))
  | .cons k a b, d, r, kids, known, labels, N, hf, I, hk, hd, he, h1, h2, h3 => by
    simp only [Fo.size] at hd h1 h2 ⊢
    obtain ⟨hf1, hf2, hf3⟩ := hf
    have e0 : (rl d (.cons k a b)).reverse ++ r = (rl d b).reverse ++ ((rl (d + 1) a).reverse ++ d :: r) := by simp [rl]
    rw [e0]
    obtain ⟨K1, N1, labs1, ls1, q1, I1, p1, pk1, b1, c1, b1', c1', s1, t1, u1⟩ := lrun_forest b d ((rl (d + 1) a).reverse ++ d :: r) kids known labels N hf3 I hk (by omega) he (by omega) (by omega) h3
    rw [q1]
    obtain ⟨K2, N2, labs2, ls2, q2, I2, p2, pk2, b2, c2, b2', c2', s2, t2, u2⟩ := lrun_forest a (d + 1) (d :: r) (kids.set d (kids.getD d [] ++ lt ls1)) K1 (labs1 ++ labels) N1 hf2 I1 (by simp [hk]) (by omega) (by
      intro j hj
      rw [getD_set _ _ _ _ (by omega), if_neg (by omega)]
      exact he j (by omega)) (by omega) (by simp [t1]; omega) (by
      intro x hx
      rw [List.length_append, t1]
      rcases mem_set hx with hx | rfl
      · have := h3 x hx; omega
      · omega)
    rw [q2]
    have g2 : (kids.set d (kids.getD d [] ++ lt ls1)).getD (d + 1) [] = [] := by
      rw [getD_set _ _ _ _ (by omega), if_neg (by omega)]
      exact he _ (by omega)
    rw [g2, List.nil_append] at u2 ⊢
    have hcond : ∀ l ∈ ls2, l < N2.length ∧ small (N2.getD l 0) := by
      intro l hl
      refine ⟨b2' l hl, ?_⟩
      have : N2.getD l 0 ∈ a.tops.reverse := by rw [← c2']; exact List.mem_map.mpr ⟨l, hl, rfl⟩
      exact a.tops_fit hf2 _ (List.mem_reverse.mp this)
    have hlab : (labs2 ++ (labs1 ++ labels)).length = a.size + b.size + labels.length := by simp [t1, t2]; omega
    have hlab1 : (labs1 ++ labels).length = b.size + labels.length := by simp [t1]
    rw [hlab1] at u2
    obtain ⟨i, K3, N3, q3, I3, p3, b3, c3, s3, i3, pk3⟩ := lrun_row I2 (kids := (kids.set d (kids.getD d [] ++ lt ls1)).set (d + 1) (lt ls2)) (d := d) (la := ls2) (labels := labs2 ++ (labs1 ++ labels)) (r := r) (by rw [getD_set _ _ _ _ (by simp; omega), if_pos rfl]) hcond (by omega) (by omega) (by rw [hlab]; omega) (by
      intro x hx
      rcases mem_set hx with hx | rfl
      · rcases mem_set hx with hx | rfl
        · have := h3 x hx; omega
        · omega
      · omega)
    rw [q3]
    have hv : prod (ls2.map fun l => N2.getD l 0) = a.num := by
      rw [c2']
      unfold prod
      rw [List.map_reverse, foldr_rev, foldr_tops]
    rw [hv] at c3
    have hkid : ((((kids.set d (kids.getD d [] ++ lt ls1)).set (d + 1) (lt ls2)).set (d + 1) []).set d (((kids.set d (kids.getD d [] ++ lt ls1)).set (d + 1) (lt ls2)).getD d [] ++ lt [i])) = kids.set d (kids.getD d [] ++ lt (ls1 ++ [i])) := by
      rw [getD_set _ _ _ _ (by simp; omega), if_neg (by omega), getD_set _ _ _ _ (by omega), if_pos rfl, List.set_set]
      refine List.ext_getElem? fun j => ?_
      simp only [List.getElem?_set, List.length_set]
      by_cases e1 : d = j
      · subst e1
        simp [lt_app]
      · by_cases e2 : d + 1 = j
        · subst e2
          have := he (d + 1) (by omega)
          have hlt : d + 1 < kids.length := by omega
          simp only [List.getD_eq_getElem?_getD, hlt, getElem?_pos, Option.getD_some] at this
          simp [hlt, this]
        · simp [e1, e2]
    rw [hkid]
    refine ⟨K3, N3, i :: (labs2 ++ labs1), ls1 ++ [i], by simp, I3, p1.trans (p2.trans p3), pk1.trans (pk2.trans pk3), ?_, ?_, ?_, ?_, by omega, by simp [t1, t2], ?_⟩
    · intro l hl
      have l2 := p2.length_le
      have l3 := p3.length_le
      rcases List.mem_cons.mp hl with rfl | hl
      · exact b3
      · rcases List.mem_append.mp hl with hl | hl
        · have := b2 l hl; omega
        · have := b1 l hl; omega
    · simp only [List.map_cons, List.map_append, Fo.pre, c3]
      rw [pre_map p3 b2, c2, pre_map (p2.trans p3) b1, c1]
    · intro l hl
      have l2 := p2.length_le
      have l3 := p3.length_le
      rcases List.mem_append.mp hl with hl | hl
      · have := b1' l hl; omega
      · rw [List.mem_singleton.mp hl]; exact b3
    · simp only [List.map_cons, List.map_append, List.map_nil, Fo.tops, List.reverse_cons, c3]
      rw [pre_map (p2.trans p3) b1', c1']
    · rw [lt_app, ← List.append_assoc, List.length_append, lt_one]
      omega
theorem lrun_text {f : Fo} {known : List (List Nat)} {N : List Int} (hf : f.fits) (I : Inv known N) (hs : f.size ≤ 10) (hk : known.length ≤ 29) :
    ∃ known' N' labs, lrun ((1 :: rl 2 f).reverse) (List.replicate 20 []) known [] = some (known', labs) ∧ Inv known' N' ∧ N <+: N' ∧ known <+: known' ∧ (∀ l ∈ labs, l < N'.length) ∧ (labs.map fun l => N'.getD l 0) = f.num :: f.pre ∧ known'.length ≤ known.length + f.size + 1 := by
  have e0 : (1 :: rl 2 f).reverse = (rl 2 f).reverse ++ [1] := by simp
  rw [e0]
  have hrep : ∀ j, (List.replicate 20 ([] : List Nat)).getD j [] = [] := by
    intro j
    simp only [List.getD_eq_getElem?_getD, List.getElem?_replicate]
    split <;> rfl
  obtain ⟨K1, N1, labs1, ls1, q1, I1, p1, pk1, b1, c1, b1', c1', s1, t1, u1⟩ := lrun_forest f 2 [1] (List.replicate 20 []) known [] N hf I (by simp) (by omega) (fun j _ => hrep j) (by omega) (by simp; omega) (by
    intro x hx
    rw [List.eq_of_mem_replicate hx]; simp)
  rw [q1]
  rw [hrep, List.nil_append] at u1 ⊢
  simp only [List.length_nil, Nat.zero_add] at u1
  have hcond : ∀ l ∈ ls1, l < N1.length ∧ small (N1.getD l 0) := by
    intro l hl
    refine ⟨b1' l hl, ?_⟩
    have : N1.getD l 0 ∈ f.tops.reverse := by rw [← c1']; exact List.mem_map.mpr ⟨l, hl, rfl⟩
    exact f.tops_fit hf _ (List.mem_reverse.mp this)
  obtain ⟨i, K3, N3, q3, I3, p3, b3, c3, s3, i3, pk3⟩ := lrun_row I1 (kids := (List.replicate 20 ([] : List Nat)).set 2 (lt ls1)) (d := 1) (la := ls1) (labels := labs1 ++ []) (r := []) (by rw [getD_set _ _ _ _ (by simp), if_pos rfl]) hcond (by omega) (by omega) (by simp [t1]; omega) (by
    intro x hx
    rcases mem_set hx with hx | rfl
    · rw [List.eq_of_mem_replicate hx]; simp
    · omega)
  rw [q3]
  have hv : prod (ls1.map fun l => N1.getD l 0) = f.num := by
    rw [c1']
    unfold prod
    rw [List.map_reverse, foldr_rev, foldr_tops]
  rw [hv] at c3
  refine ⟨K3, N3, i :: labs1, by simp [lrun], I3, p1.trans p3, pk1.trans pk3, ?_, ?_, by omega⟩
  · intro l hl
    have l3 := p3.length_le
    rcases List.mem_cons.mp hl with rfl | hl
    · exact b3
    · have := b1 l hl; omega
  · simp only [List.map_cons, c3]
    rw [pre_map p3 b1, c1]
end Mine
end
section
open PySem PySem.W PySem.Calls PyProof.Rows
set_option maxRecDepth 100000
namespace Mine
section
variable {prog : Program} {w : World} {A : Around} {E : Value → Shared → Prop} {s : Shared} {h₀ : Heap} {L : Addr} {m : PySem.Str → Option Value} {env : Env}
/-- a comprehension's turns by a word over what is built and the ledger -/
theorem comp_inv {elt : Expr} {x : PySem.Str} {scope : Scope} {cl : List (PySem.Str × Addr)} {S : List (Addr × Obj) → Prop} {P : Nat → Value → Prop} {Fin : List Value → List (Addr × Obj) → Prop} (n : Nat) (J : Nat → List Value → List (Addr × Obj) → Prop)
    (fin : ∀ ys news, J n ys news → Fin ys news)
    (turn : ∀ i ys news v I oI C oC D m₂ h tk (E' : Value → Shared → Prop), i < n → J i ys news → P i v → LCg.NsObj oC m₂ → m₂ x = some v → Fr h₀ L h m → News h₀ L h ((I, oI) :: (C, oC) :: (D, LCg.lst ys) :: news) → LCg.Off3 I C D news → ((@Ne Nat I C) ∧ (@Ne Nat I D) ∧ (@Ne Nat C D)) →
      wpAny (model prog w) A (eval elt (compEnvC scope cl C env)) (LCg.CompEnd h₀ L m { s with heap := h, toks := tk } I oI C oC D (LCg.lst ys) S (fun y news' => J (i + 1) (ys ++ [y]) news')) E' { s with heap := h, toks := tk }) :
    ∀ k i ys news, i + k = n → J i ys news → LCg.CompRest prog w A h₀ L m env elt x scope cl s S P Fin k i ys news
  | 0, i, ys, news, hk, hJ => by
    have e : i = n := by omega
    subst e
    exact LCg.CompRest.zero (fin _ _ hJ)
  | k + 1, i, ys, news, hk, hJ => by
    refine LCg.CompRest.succ fun v I oI C oC D m₂ h tk E' hP hC hx F N o3 ne => ?_
    refine wpAny_mono (turn i ys news v I oI C oC D m₂ h tk E' (by omega) hJ hP hC hx F N o3 ne) (fun y s' q => ?_) fun _ _ e => e
    obtain ⟨h', tk', news', e, F', N', o', hS, r⟩ := q
    exact ⟨h', tk', news', e, F', N', o', hS, comp_inv n J fin turn k (i + 1) (ys ++ [y]) news' (by omega) r⟩
/-- a comprehension over a text's signs -/
theorem ListComp_str {elt iter : Expr} {x : PySem.Str} {px : Pos} {scope : Scope} {cl : List (PySem.Str × Addr)} {pos : Pos} {Q : Value → Shared → Prop} (_F₀ : Fr h₀ L s.heap m)
    (hclos : closureFor scope env = pure cl) (hcell : ∀ y ∈ scope.names, y.2 ≠ .cell) (hkind : scope.kind = .function)
    (hnames : ∀ y ∈ scope.names, y.2 = .local → scope.names.lookup y.1 = some .local) (hx : scope.names.lookup x = some .local)
    (h : wpAny (model prog w) A (eval iter env) (fun xv s₁ => ∃ y t news, xv = .str y t ∧ A.handled = none ∧ Fr h₀ L s₁.heap m ∧ News h₀ L s₁.heap news ∧ y.cps.all (· < 128) = true ∧ y.cps.size ≤ sizeLine ∧
      ∀ s₂ : Shared, (∃ h, s₂ = { s₁ with heap := h }) → LCg.CompRest prog w A h₀ L m env elt x scope cl s₂ (fun _ => True) (SignAt y) (LCg.FinE h₀ L m s₂ Q) y.cps.size 0 [] news) E s)
    (hs : ∀ x, foldedSetIterable iter env x = pure x := by intro _; rfl) :
    wpAny (model prog w) A (eval (.ListComp elt [⟨.Name x px, iter, [], 0⟩] scope pos) env) Q E s := by
  rw [eval_ListComp]
  refine wpAny_comprehension_free (use := none) rfl hs hclos hkind hnames (wpAny_mono h (fun xv s₁ h₁ => ?_) fun _ _ e => e)
  obtain ⟨y, t, news, rfl, hh, F, N, ha, hsz, R⟩ := h₁
  refine wpAny_pyIter_ascii ha ?_
  have up : ∀ b o, s₁.heap.get? b = some o → (s₁.heap.push { cls := .type "str_ascii_iterator", data := .fields #[.str y t, .int 0 0] }).get? b = some o := fun b o e => Heap.get?_push_of_some _ e
  refine LCg.block_U (Walks.strAscii hh s₁.heap.objs.size y t) hsz (fun i h st => by obtain ⟨o, e, _⟩ := st; exact ⟨o, e⟩) (fun i h h' o nw st e e' _ _ _ => by obtain ⟨o', q, r⟩ := st; rw [e] at q; cases q; exact ⟨o, e', r⟩) hcell hkind hx ⟨_, Heap.get?_push_size _ rfl, rfl, rfl⟩ (fun b hb => ?_)
    (F.keeps up) (N.grown up) (Nat.ne_of_lt F.ns.lt) (next_is_new F) (fun p hp => Nat.ne_of_lt (Heap.lt_size (N p hp).1)) trivial (R _ ⟨_, rfl⟩) ?_
  · rw [List.mem_singleton.mp hb]
    show s₁.heap.objs.size < (s₁.heap.push _).objs.size
    rw [Heap.size_push]; exact Nat.lt_succ_self _
  · intro D C h tk m' ys news' F' N' o1 hn hC₀ hD₀ hCL hDL hCD offC fin
    refine ⟨m', hn, fun h'' hs'' => fin D h'' tk (F'.change hs'' hCL hC₀) (fun p hp => ?_) o1⟩
    refine ⟨hs''.extBut _ _ ?_ (N' p hp).1, (N' p hp).2⟩
    rcases List.mem_cons.mp hp with rfl | hp
    · exact Ne.symm hCD
    · exact offC p hp
end
end Mine
end
section
open PySem PySem.W PySem.Calls PyProof.Rows
set_option maxRecDepth 100000
namespace Mine
section
variable {w : World} {A : Around} {E : Value → Shared → Prop} {s : Shared} {g : Heap} {L : Addr} {m : PySem.Str → Option Value}
theorem tok39 {prog : Program} {value slice : Expr} {x : PySem.Str} {v : Value} {t : Tok} {Q : Value → Shared → Prop} (F : Fr g L s.heap m) (X : (hd.heap_39 w.params).In g) (e : nsIn (hd.heap_39 w.params) 39 x = some (some v)) (h : Q v { s with toks := s.toks + 1 })
    (hs : subscripted slice false (.ref 39) (.str x t) = operate [.ref 39, .str x t] (getItem (.ref 39) (.str x t))) :
    wpAny (model prog w) A (subscriptTail value slice (.ref 39) (.str x t)) Q E s := topItem_K F X (a := 39) rfl (by k_keys) e h hs
theorem tok_item {prog : Program} {value slice : Expr} {c : Nat} {t : Tok} {Q : Value → Shared → Prop} (F : Fr g L s.heap m) (X : (hd.heap_39 w.params).In g) (hc : isBr c) (h : ∀ tk tk', Q (.int (sy c) tk) { s with toks := tk' })
    (hs : subscripted slice false (.ref 39) (.str (sOf [c]) t) = operate [.ref 39, .str (sOf [c]) t] (getItem (.ref 39) (.str (sOf [c]) t)) := by with_unfolding_all rfl) :
    wpAny (model prog w) A (subscriptTail value slice (.ref 39) (.str (sOf [c]) t)) Q E s := by
  rcases hc with rfl | rfl | rfl | rfl | rfl | rfl
  · exact tok39 F X (v := .int 7 293) (by kernel_rfl) (h 293 _) hs
  · exact tok39 F X (v := .int 8 295) (by kernel_rfl) (h 295 _) hs
  · exact tok39 F X (v := .int 9 297) (by kernel_rfl) (h 297 _) hs
  · exact tok39 F X (v := .int 10 299) (by kernel_rfl) (h 299 _) hs
  · exact tok39 F X (v := .int 25 329) (by kernel_rfl) (h 329 _) hs
  · exact tok39 F X (v := .int 26 331) (by kernel_rfl) (h 331 _) hs
end
section
variable {prog : Program} {w : World} {A : Around} {E : Value → Shared → Prop} {s : Shared} {h₀ : Heap} {L C : Addr} {m mg mb m₂ : PySem.Str → Option Value} {env : Env} {K : Frag} {p : Program} {loose : List PySem.Str} {scope : Scope} {cl : List (PySem.Str × Addr)}
theorem comp_local {x : PySem.Str} {pos : Pos} {v : Value} {Q : Value → Shared → Prop} {oC : Obj} (hC : LCg.NsObj oC m₂) (hg : s.heap.get? C = some oC) (hv : m₂ x = some v) (h : Q v s)
    (hk : (compEnvC scope cl C env).scope.kind = .function := by rfl) (hl : (compEnvC scope cl C env).kindOf x = some .local := by rfl) (hd : (x == ("__debug__" : PySem.Str)) = false := by decide) :
    wpAny (model prog w) A (eval (.Name x pos) (compEnvC scope cl C env)) Q E s := wpAny_Name (wpAny_loadName_local hk hl (hC.ns hg) hv h) hd
theorem comp_global {x : PySem.Str} {pos : Pos} {v : Value} {Q : Value → Shared → Prop} (F : Fr h₀ L s.heap m) (X : K.In h₀) (T : TopRead p loose mg mb h₀) (e : nsIn K mainGlobals x = some (some v)) (hgl : env.globals = mainGlobals) (h : Q v s)
    (hk : (compEnvC scope cl C env).scope.kind = .function := by rfl) (hl : (compEnvC scope cl C env).kindOf x = some .globalImplicit := by rfl) (hd : (x == ("__debug__" : PySem.Str)) = false := by decide) :
    wpAny (model prog w) A (eval (.Name x pos) (compEnvC scope cl C env)) Q E s :=
  Name_function_global hk hl (loadGlobal_global (env := compEnvC scope cl C env) (by show s.heap.Ns env.globals mg; rw [hgl]; exact T.g.keeps F.keep) (mg_of X T.g e) h) hd
end
section
variable {prog : Program} {w : World} {A : Around} {E : Value → Shared → Prop} {s : Shared}
theorem in_br {cv x : Value} {c : Nat} {y : PySem.Str} {i : Int} {as bs : List Addr} {Q : Value → Shared → Prop} (rc : Reads s.heap cv (.list [.tuple [.str (Str.ofString "("), .int 7], .tuple [.str (Str.ofString "["), .int 9], .tuple [.str (Str.ofString "{"), .int 25]]) as)
    (rx : Reads s.heap x (.tuple [.str y, .int i]) bs) (hy : y = sOf [c]) (hi : i = sy c) (hc : c < 128) (hu : A.units + 65 < cLine) (h : Q (.bool (decide (c = 40 ∨ c = 91 ∨ c = 123))) s) : wpAny (model prog w) A (compareOp .In x cv) Q E s := by
  subst hy hi
  have hok : PyData.strOk (sOf [c]) = true := sOf_ok (by intro d hd; rw [List.mem_singleton.mp hd]; exact hc)
  refine SeqAt.in_list_reads rc rx (by decide +kernel) (by simp [PyData.canLay0, PyData.canLayAll0, hok]) ?_ ?_
  · have h2 : min (PyData.depthAll [.tuple [.str (Str.ofString "("), .int 7], .tuple [.str (Str.ofString "["), .int 9], .tuple [.str (Str.ofString "{"), .int 25]]) (PyData.depth (.tuple [.str (sOf [c]), .int (sy c)])) ≤ PyData.depthAll [.tuple [.str (Str.ofString "("), .int 7], .tuple [.str (Str.ofString "["), .int 9], .tuple [.str (Str.ofString "{"), .int 25]] := Nat.min_le_left _ _
    have h3 : PyData.depthAll [.tuple [.str (Str.ofString "("), .int 7], .tuple [.str (Str.ofString "["), .int 9], .tuple [.str (Str.ofString "{"), .int 25]] ≤ 64 := by decide
    omega
  · have e1 : Str.ofString "(" = sOf [40] := by decide +kernel
    have e2 : Str.ofString "[" = sOf [91] := by decide +kernel
    have e3 : Str.ofString "{" = sOf [123] := by decide +kernel
    have key : ∀ d : Nat, (sOf [d] == sOf [c]) = decide (d = c) := by
      intro d
      rw [Bool.eq_iff_iff]
      simp
    have hb : ([PyData.tuple [.str (Str.ofString "("), .int 7], .tuple [.str (Str.ofString "["), .int 9], .tuple [.str (Str.ofString "{"), .int 25]].any fun z => PyData.eqv z (.tuple [.str (sOf [c]), .int (sy c)])) = decide (c = 40 ∨ c = 91 ∨ c = 123) := by
      simp only [List.any_cons, List.any_nil, PyData.eqv, PyData.eqvAll, e1, e2, e3, key, Bool.or_false, Bool.and_true]
      by_cases h1 : c = 40
      · subst h1; decide
      · by_cases h2 : c = 91
        · subst h2; decide
        · by_cases h3 : c = 123
          · subst h3; decide
          · have g1 : ¬ 40 = c := fun e => h1 e.symm
            have g2 : ¬ 91 = c := fun e => h2 e.symm
            have g3 : ¬ 123 = c := fun e => h3 e.symm
            simp [h1, h2, h3, g1, g2, g3]
    rw [hb]; exact h
end
theorem pr_same : ∀ k : Nat, k < 19 → PR.getD k 0 = PR.getD k 1 := by
  intro k hk
  match k, hk with
  | 0, _ | 1, _ | 2, _ | 3, _ | 4, _ | 5, _ | 6, _ | 7, _ | 8, _ | 9, _ | 10, _ | 11, _ | 12, _ | 13, _ | 14, _ | 15, _ | 16, _ | 17, _ | 18, _ => rfl
  | k + 19, hk => omega
theorem pr_bits : ∀ k : Nat, Builtin.Int.intBits (PR.getD k 1) ≤ 64 := by
  intro k
  match k with
  | 0 | 1 | 2 | 3 | 4 | 5 | 6 | 7 | 8 | 9 | 10 | 11 | 12 | 13 | 14 | 15 | 16 | 17 | 18 => decide +kernel
  | k + 19 => exact (show Builtin.Int.intBits 1 ≤ 64 by decide +kernel)
section
variable {prog : Program} {w : World} {A : Around} {E : Value → Shared → Prop} {s : Shared} {g : Heap} {L : Addr} {m : PySem.Str → Option Value}
theorem prime_item {value slice : Expr} {lp : Addr} {pv : List Value} {t : Int} {u : Tok} {Q : Value → Shared → Prop} (F : Fr g L s.heap m) (hl : g.IsList lp pv.toArray) (hi : IntsAre pv PR) (h1 : 256 ≤ t) (h2 : t ≤ 274)
    (h : ∀ tk, Q (.int (PR.getD (t - 256).toNat 1) tk) s)
    (hs : subscripted slice false (.ref lp) (.int (t - 256) u) = operate [.ref lp, .int (t - 256) u] (getItem (.ref lp) (.int (t - 256) u)) := by with_unfolding_all rfl) :
    wpAny (model prog w) A (subscriptTail value slice (.ref lp) (.int (t - 256) u)) Q E s :=
  item_anyK (hl.at fun o e => F.keep lp o e) hi (by omega) (by show t - 256 < 19; omega) (by omega) (fun tk => by rw [pr_same _ (by omega)]; exact h tk) hs
theorem mul_pr {n : Int} {k : Nat} {t u : Tok} {Q : Value → Shared → Prop} (h : Q (.int (n * PR.getD k 1) s.toks) { s with toks := s.toks + 1 }) : wpAny (model prog w) A (binaryOp .Mult (.int n t) (.int (PR.getD k 1) u)) Q E s :=
  PyProof.Rows.mul_int h (IntMulOk.of_right (pr_bits k))
end
end Mine
end
section
open PySem PySem.W PySem.Calls PyProof.Rows
set_option maxRecDepth 100000
namespace Mine
open Sem (wp)
section
variable {prog : Program} {w : World} {A : Around} {E : Value → Shared → Prop} {s : Shared}
/-- the parts of a zip over a text's signs and a list, each at an address of its own -/
structure ZApart (z TI TO i1 i2 l2 : Addr) : Prop where
  TIz : TI ≠ z
  TOz : TO ≠ z
  i1z : i1 ≠ z
  i2z : i2 ≠ z
  TITO : TI ≠ TO
  TIi1 : TI ≠ i1
  TIi2 : TI ≠ i2
  TOi1 : TO ≠ i1
  TOi2 : TO ≠ i2
  i12 : i1 ≠ i2
  l2z : l2 ≠ z
  l2TO : l2 ≠ TO
  l2i1 : l2 ≠ i1
  l2i2 : l2 ≠ i2
theorem strIter_ext {h h' : Heap} {a b : Addr} {x : PySem.Str} {t : Tok} {i : Nat} {c : String} (p : h.IsStrIter a c x t i) (e : Heap.ExtBut b h h') (hne : a ≠ b) : h'.IsStrIter a c x t i := by
  obtain ⟨o, h1, h2, h3⟩ := p
  exact ⟨o, e a o hne h1, h2, h3⟩
theorem zs_next_item {z TI TO i1 i2 l2 : Addr} {k : Nat} {x : PySem.Str} {xt : Tok} {c : Nat} {ys : Array Value} {y a b : Value} {Q : Value → Shared → Prop} (D : ZApart z TI TO i1 i2 l2)
    (hz : IsZip s.heap z TI TO .none) (hTI : IsPair s.heap TI (.ref i1) (.ref i2)) (hTO : IsPair s.heap TO a b)
    (h1 : s.heap.IsStrIter i1 "str_ascii_iterator" x xt k) (h2 : s.heap.IsListIter i2 l2 k) (hl2 : s.heap.IsList l2 ys) (hx : x.cps[k]? = some c) (hy : ys[k]? = some y)
    (hQ : ∀ h' t tk, IsZip h' z TI TO (rawInt s.heap.objs.size) → IsPair h' TO (.str ⟨#[c]⟩ t) y → h'.IsStrIter i1 "str_ascii_iterator" x xt (k + 1) → h'.IsListIter i2 l2 (k + 1) → IsPair h' s.heap.objs.size (.str ⟨#[c]⟩ t) y →
      (∀ c o, c ≠ z → c ≠ TO → c ≠ i1 → c ≠ i2 → s.heap.get? c = some o → h'.get? c = some o) → Q (.ref s.heap.objs.size) { s with heap := h', toks := tk }) :
    wpAny (model prog w) A (Builtin.«zip.__next__» ⟨[.ref z], []⟩) (fun fin s' => ∃ v, fin = .done (.ret v) ∧ Q v s') E s := by
  show wpAny _ _ (field (.ref z) 2 >>= _) _ _ _
  refine wpAny_bind (wpAny_field hz rfl (x := .bool false) rfl ?_)
  show wpAny _ _ (field (.ref z) 3 >>= _) _ _ _
  refine wpAny_bind (wpAny_field hz rfl (x := .ref TI) rfl ?_)
  refine wpAny_bind (wpAny_seqItems hTI rfl ?_)
  show wpAny _ _ (Builtin.SmallTypes.ownedTupleIsFree (.ref z) >>= _) _ _ _
  refine wpAny_bind ?_
  unfold Builtin.SmallTypes.ownedTupleIsFree
  refine wpAny_bind (wpAny_field hz rfl (x := .none) rfl (wpAny_pure ?_))
  simp only [if_true]
  refine wpAny_bind (wpAny_rule ?_)
  refine wpAny_bind (wpAny_field hz rfl (x := .ref TO) rfl ?_)
  refine wpAny_bind (wpAny_setField_rec hz (by simp) fun h₁ hz₁ hs₁ => ?_)
  replace hz₁ : IsZip h₁ z TI TO .ellipsis := hz₁
  refine wpAny_bind ?_
  simp only [List.zipIdx_cons, List.zipIdx_nil, List.forIn_cons, List.forIn_nil]
  refine wpAny_bind (wpAny_bind (wpAny_onRaise ?_))
  show wpAny _ _ (Builtin.SmallTypes.nextOf (.ref i1) >>= _) _ _ _
  refine wpAny_bind (wpAny_nextOf_ascii_item (strIter_ext h1 hs₁.extBut D.i1z) hx fun h₂ h1₂ hs₂ => wpAny_pure ?_)
  have hTO₂ : IsPair h₂ TO a b := hs₂.extBut _ _ D.TOi1 (hs₁.extBut _ _ D.TOz hTO)
  refine wpAny_bind (wpAny_seqItems hTO₂ rfl ?_)
  refine wpAny_bind (wpAny_updateSeq_pair hTO₂ fun h₃ hTO₃ hs₃ => ?_)
  replace hTO₃ : IsPair h₃ TO (.str ⟨#[c]⟩ s.toks) b := hTO₃
  refine wpAny_bind (wpAny_letGo (wpAny_pure ?_))
  refine wpAny_bind (wpAny_bind (wpAny_onRaise ?_))
  show wpAny _ _ (Builtin.SmallTypes.nextOf (.ref i2) >>= _) _ _ _
  refine wpAny_bind (wpAny_nextOf_list_item (((h2.extBut hs₁.extBut D.i2z).extBut hs₂.extBut D.i12.symm).extBut hs₃.extBut D.TOi2.symm)
    (((hl2.extBut hs₁.extBut D.l2z).extBut hs₂.extBut D.l2i1).extBut hs₃.extBut D.l2TO) hy fun h₄ h2₄ hs₄ => wpAny_pure ?_)
  have hTO₄ : IsPair h₄ TO (.str ⟨#[c]⟩ s.toks) b := hs₄.extBut _ _ D.TOi2 hTO₃
  refine wpAny_bind (wpAny_seqItems hTO₄ rfl ?_)
  refine wpAny_bind (wpAny_updateSeq_pair hTO₄ fun h₅ hTO₅ hs₅ => ?_)
  replace hTO₅ : IsPair h₅ TO (.str ⟨#[c]⟩ s.toks) y := hTO₅
  refine wpAny_bind (wpAny_letGo (wpAny_pure (wpAny_pure ?_)))
  refine wpAny_bind (wpAny_seqItems hTO₅ rfl ?_)
  refine wpAny_bind (wpAny_newTuple ?_)
  have hsz : h₅.objs.size = s.heap.objs.size := by rw [hs₅.1, hs₄.1, hs₃.1, hs₂.1, hs₁.1]
  have hz₅ : IsZip h₅ z TI TO .ellipsis := hs₅.extBut _ _ D.TOz.symm (hs₄.extBut _ _ D.i2z.symm (hs₃.extBut _ _ D.TOz.symm (hs₂.extBut _ _ D.i1z.symm hz₁)))
  have hk₅ : ∀ c o, c ≠ z → c ≠ TO → c ≠ i1 → c ≠ i2 → s.heap.get? c = some o → h₅.get? c = some o := fun c o c1 c2 c3 c4 e =>
    hs₅.extBut _ _ c2 (hs₄.extBut _ _ c4 (hs₃.extBut _ _ c2 (hs₂.extBut _ _ c3 (hs₁.extBut _ _ c1 e))))
  have h1₅ : h₅.IsStrIter i1 "str_ascii_iterator" x xt (k + 1) := strIter_ext (strIter_ext (strIter_ext h1₂ hs₃.extBut D.TOi1.symm) hs₄.extBut D.i12) hs₅.extBut D.TOi1.symm
  have h2₅ : h₅.IsListIter i2 l2 (k + 1) := h2₄.extBut hs₅.extBut D.TOi2.symm
  have hzlt : z < h₅.objs.size := Heap.lt_size hz₅
  show wpAny _ _ (Builtin.SmallTypes.ownedTupleHandOut (.ref z) (.ref h₅.objs.size) >>= _) _ _ _
  refine wpAny_bind ?_
  unfold Builtin.SmallTypes.ownedTupleHandOut
  have hz₆ : IsZip (h₅.push { cls := .type "tuple", data := .seq #[.str ⟨#[c]⟩ s.toks, y] }) z TI TO .ellipsis := Heap.get?_push_of_some _ hz₅
  refine wpAny_bind (wpAny_setField_rec hz₆ (by simp) fun h₇ hz₇ hs₇ => ?_)
  replace hz₇ : IsZip h₇ z TI TO (rawInt h₅.objs.size) := hz₇
  refine wpAny_setField_rec hz₇ (by simp) fun h₈ hz₈ hs₈ => ?_
  replace hz₈ : IsZip h₈ z TI TO (rawInt h₅.objs.size) := hz₈
  have up : ∀ c o, c ≠ z → h₅.get? c = some o → h₈.get? c = some o := fun c o c1 e => hs₈.extBut _ _ c1 (hs₇.extBut _ _ c1 (Heap.get?_push_of_some _ e))
  have hT₈ : IsPair h₈ h₅.objs.size (.str ⟨#[c]⟩ s.toks) y := hs₈.extBut _ _ (Nat.ne_of_gt hzlt) (hs₇.extBut _ _ (Nat.ne_of_gt hzlt) (Heap.get?_push_size _ rfl))
  rw [hsz] at hz₈ hT₈
  refine wpAny_pure ⟨_, rfl, ?_⟩
  show Q (.ref h₅.objs.size) _
  rw [hsz]
  exact hQ h₈ s.toks _ hz₈ (up _ _ D.TOz hTO₅) (let ⟨o, e1, e2, e3⟩ := h1₅; ⟨o, up _ o D.i1z e1, e2, e3⟩) (h2₅.at fun o e => up _ o D.i2z e) hT₈ fun c o c1 c2 c3 c4 e => up c o c1 (hk₅ c o c1 c2 c3 c4 e)
theorem zs_next_end {z TI TO i1 i2 l2 : Addr} {k : Nat} {x : PySem.Str} {xt : Tok} {a b : Value} {Q : Fin → Shared → Prop} (hh : A.handled = none) (D : ZApart z TI TO i1 i2 l2)
    (hz : IsZip s.heap z TI TO .none) (hTI : IsPair s.heap TI (.ref i1) (.ref i2)) (hTO : IsPair s.heap TO a b)
    (h1 : s.heap.IsStrIter i1 "str_ascii_iterator" x xt k) (hend : x.cps[k]? = none)
    (hE : ∀ h' e, (∀ c o, c ≠ z → c ≠ TO → c ≠ i1 → c ≠ i2 → s.heap.get? c = some o → h'.get? c = some o) → (∃ o, h'.get? e = some o ∧ o.cls = .type "StopIteration") → E (.ref e) { s with heap := h' }) :
    wpAny (model prog w) A (Builtin.«zip.__next__» ⟨[.ref z], []⟩) Q E s := by
  show wpAny _ _ (field (.ref z) 2 >>= _) _ _ _
  refine wpAny_bind (wpAny_field hz rfl (x := .bool false) rfl ?_)
  show wpAny _ _ (field (.ref z) 3 >>= _) _ _ _
  refine wpAny_bind (wpAny_field hz rfl (x := .ref TI) rfl ?_)
  refine wpAny_bind (wpAny_seqItems hTI rfl ?_)
  show wpAny _ _ (Builtin.SmallTypes.ownedTupleIsFree (.ref z) >>= _) _ _ _
  refine wpAny_bind ?_
  unfold Builtin.SmallTypes.ownedTupleIsFree
  refine wpAny_bind (wpAny_field hz rfl (x := .none) rfl (wpAny_pure ?_))
  simp only [if_true]
  refine wpAny_bind (wpAny_rule ?_)
  refine wpAny_bind (wpAny_field hz rfl (x := .ref TO) rfl ?_)
  refine wpAny_bind (wpAny_setField_rec hz (by simp) fun h₁ hz₁ hs₁ => ?_)
  replace hz₁ : IsZip h₁ z TI TO .ellipsis := hz₁
  refine wpAny_bind ?_
  simp only [List.zipIdx_cons, List.zipIdx_nil, List.forIn_cons, List.forIn_nil]
  refine wpAny_bind (wpAny_bind (wpAny_onRaise ?_))
  show wpAny _ _ (Builtin.SmallTypes.nextOf (.ref i1) >>= _) _ _ _
  refine wpAny_bind (wpAny_nextOf_ascii_end hh (strIter_ext h1 hs₁.extBut D.i1z) hend fun h₂ e hs₂ he => ?_)
  obtain ⟨oe, hoe, hce⟩ := he
  have hz₂ : IsZip h₂ z TI TO .ellipsis := hs₂ _ _ D.i1z.symm hz₁
  have hez : e ≠ z := fun x => by subst x; rw [hz₂] at hoe; cases hoe; simp at hce
  refine wpAny_setField_rec hz₂ (by simp) fun h₃ _ hs₃ => hE h₃ e (fun c o c1 _ c3 _ x => hs₃.extBut _ _ c1 (hs₂ _ _ c3 (hs₁.extBut _ _ c1 x))) ⟨oe, hs₃.extBut _ _ hez hoe, hce⟩
/-- the walk of a zip over a text's signs and a list as long as it -/
theorem zs_walk (hh : A.handled = none) (z TI TO i1 i2 l2 : Addr) (D : ZApart z TI TO i1 i2 l2) (x : PySem.Str) (xt : Tok) (ys : Array Value) (hn : x.cps.size = ys.size) :
    WalksU prog w A z [z, TI, TO, i1, i2, l2] [z, TO, i1, i2] x.cps.size
      (fun i vals => ∃ c t y, x.cps[i]? = some c ∧ ys[i]? = some y ∧ vals = #[.str ⟨#[c]⟩ t, y])
      (fun i h => IsZip h z TI TO .none ∧ IsPair h TI (.ref i1) (.ref i2) ∧ (∃ a b, IsPair h TO a b) ∧ h.IsStrIter i1 "str_ascii_iterator" x xt i ∧ h.IsListIter i2 l2 i ∧ h.IsList l2 ys)
      (fun i T h => IsZip h z TI TO (rawInt T) ∧ IsPair h TI (.ref i1) (.ref i2) ∧ (∃ a b, IsPair h TO a b) ∧ h.IsStrIter i1 "str_ascii_iterator" x xt (i + 1) ∧ h.IsListIter i2 l2 (i + 1) ∧ h.IsList l2 ys ∧ T ≠ z ∧ T ≠ TO ∧ T ≠ i1 ∧ T ≠ i2) where
  sub := fun c hc => by simp at hc ⊢; rcases hc with rfl | rfl | rfl | rfl <;> simp
  frame := fun i h h' hst hk => by
    obtain ⟨hz, hTI, ⟨a, b, hTO⟩, ⟨o1, e1, e2, e3⟩, h2, hl2⟩ := hst
    exact ⟨hk z (by simp) _ hz, hk TI (by simp) _ hTI, ⟨a, b, hk TO (by simp) _ hTO⟩, ⟨o1, hk i1 (by simp) _ e1, e2, e3⟩, h2.at fun o e => hk i2 (by simp) o e, hl2.at fun o e => hk l2 (by simp) o e⟩
  item := fun i s Q E hi hst hQ => by
    obtain ⟨hz, hTI, ⟨a, b, hTO⟩, h1, h2, hl2⟩ := hst
    have hiy : i < ys.size := hn ▸ hi
    have hT : s.TypeIs (.ref z) "zip" := ⟨_, hz, rfl⟩
    unfold pyNext
    refine wpAny_bind (wpAny_attempt (wpAny_callSpecial?_slot (name := Str.ofString "__next__") hT F.slot_zip_next
      (wpAny_call_entry F.slot_zip_next hT F.entry_zip_next
        (zs_next_item D hz hTI hTO h1 h2 hl2 (Array.getElem?_eq_getElem hi) (Array.getElem?_eq_getElem hiy) fun h' t tk a1 a2 a3 a4 a5 hk => wpAny_pure ?_) (F.args_zip_next_1 _))))
    have lt : ∀ {c o}, s.heap.get? c = some o → s.heap.objs.size ≠ c := fun e => Nat.ne_of_gt (Heap.lt_size e)
    exact hQ s.heap.objs.size _ h' tk ⟨_, t, _, Array.getElem?_eq_getElem hi, Array.getElem?_eq_getElem hiy, rfl⟩ ⟨_, a5, rfl, _, rfl⟩
      ⟨a1, hk _ _ D.TIz D.TITO D.TIi1 D.TIi2 hTI, ⟨_, _, a2⟩, a3, a4, hl2.at fun o e => hk _ o D.l2z D.l2TO D.l2i1 D.l2i2 e,
        lt hz, lt hTO, (by obtain ⟨_, e, _⟩ := h1; exact lt e), (by obtain ⟨_, e, _⟩ := h2; exact lt e)⟩
      fun c o hc e => hk c o (fun x => hc (by simp [x])) (fun x => hc (by simp [x])) (fun x => hc (by simp [x])) (fun x => hc (by simp [x])) e
  go := fun elts k pos i T s Q E hm hQ => by
    obtain ⟨hz, hTI, ⟨a, b, hTO⟩, h1, h2, hl2, _⟩ := hm
    refine wpAny_letOwnedTupleGo_zip hz fun h' hz' hs' => hQ h' ⟨hz', hs'.extBut _ _ D.TIz hTI, ⟨a, b, hs'.extBut _ _ D.TOz hTO⟩, strIter_ext h1 hs'.extBut D.i1z, h2.extBut hs'.extBut D.i2z, hl2.extBut hs'.extBut D.l2z⟩
      fun c o hc e => hs'.extBut _ _ (fun x => hc (by simp [x])) e
  apart := fun i T h hm hT => by
    obtain ⟨_, _, _, _, _, _, t1, t2, t3, t4⟩ := hm
    simp at hT
    rcases hT with rfl | rfl | rfl | rfl
    · exact t1 rfl
    · exact t2 rfl
    · exact t3 rfl
    · exact t4 rfl
  done := fun s Q E hst hQ => by
    obtain ⟨hz, hTI, ⟨a, b, hTO⟩, h1, h2, hl2⟩ := hst
    have hT : s.TypeIs (.ref z) "zip" := ⟨_, hz, rfl⟩
    unfold pyNext
    refine wpAny_bind (wpAny_attempt (wpAny_callSpecial?_slot (name := Str.ofString "__next__") hT F.slot_zip_next
      (wpAny_call_entry F.slot_zip_next hT F.entry_zip_next (zs_next_end hh D hz hTI hTO h1 (Array.getElem?_eq_none (Nat.le_refl _)) fun h' e hk he => ?_) (F.args_zip_next_1 _))))
    obtain ⟨o, ho, hc⟩ := he
    refine wpAny_bind (wpAny_isInstance (T := "StopIteration") (b := true) ⟨o, ho, hc⟩ isSubtype_stop ?_)
    exact wpAny_pure (hQ h' s.toks fun c o hc e => hk c o (fun x => hc (by simp [x])) (fun x => hc (by simp [x])) (fun x => hc (by simp [x])) (fun x => hc (by simp [x])) e)
  self := fun i s Q E hst hQ => wpAny_pyIter_zip hst.1 hQ
end
abbrev zsH1 (h : Heap) (x : PySem.Str) (t : Tok) : Heap := h.push { cls := .type "str_ascii_iterator", data := .fields #[.str x t, .int 0 0] }
abbrev zsH2 (h : Heap) (x : PySem.Str) (t : Tok) (l2 : Addr) : Heap := (zsH1 h x t).push { cls := .type "list_iterator", data := .fields #[.ref l2, .int 0 0] }
abbrev zsH3 (h : Heap) (x : PySem.Str) (t : Tok) (l2 : Addr) : Heap := (zsH2 h x t l2).push { cls := .type "tuple", data := .seq #[.ref h.objs.size, .ref (zsH1 h x t).objs.size] }
abbrev zsH4 (h : Heap) (x : PySem.Str) (t : Tok) (l2 : Addr) : Heap := (zsH3 h x t l2).push { cls := .type "tuple", data := .seq #[.none, .none] }
abbrev zsH5 (h : Heap) (x : PySem.Str) (t : Tok) (l2 : Addr) : Heap := (zsH4 h x t l2).push { cls := .type "zip", data := .fields #[.none, .bool false, .bool false, .ref (zsH2 h x t l2).objs.size, .ref (zsH3 h x t l2).objs.size] }
set_option maxHeartbeats 4000000 in
theorem meets_zs_new (x : PySem.Str) (t : Tok) (l2 : Addr) (ys : Array Value) (ha : x.cps.all (· < 128) = true) :
    Meets (Builtin.«zip.__new__» ⟨[.type "zip", .str x t, .ref l2], []⟩) (fun _ R s => s.heap.IsList l2 ys ∧
      R (.ok (.ret (.ref (zsH4 s.heap x t l2).objs.size))) { s with heap := zsH5 s.heap x t l2 }) :=
  .of_wp fun prog w A R s h => by
    obtain ⟨hp, g, d, tk, os⟩ := s; obtain ⟨hl2, h⟩ := h
    have hsub := sub_zip
    have hL2 : Heap.IsList (Shared.heap ⟨hp.push { cls := .type "str_ascii_iterator", data := .fields #[.str x t, .int 0 0] }, g, d, tk, os⟩) l2 ys := Heap.IsList.push hl2 _
    wp_walk using wpAny_pyIter_ascii ha, wpAny_pyIter_list hL2
    exact ⟨_, rfl, h⟩
section
variable {prog : Program} {w : World} {A : Around} {E : Value → Shared → Prop} {s : Shared}
theorem call_zs {x : PySem.Str} {t : Tok} {l2 : Addr} {ys : Array Value} {Q : Value → Shared → Prop} (ha : x.cps.all (· < 128) = true) (hl2 : s.heap.IsList l2 ys)
    (h : ∀ h', IsZip h' (s.heap.objs.size + 4) (s.heap.objs.size + 2) (s.heap.objs.size + 3) .none → IsPair h' (s.heap.objs.size + 2) (.ref s.heap.objs.size) (.ref (s.heap.objs.size + 1)) →
      IsPair h' (s.heap.objs.size + 3) .none .none → h'.IsStrIter s.heap.objs.size "str_ascii_iterator" x t 0 → h'.IsListIter (s.heap.objs.size + 1) l2 0 →
      (∀ c o, s.heap.get? c = some o → h'.get? c = some o) → Q (.ref (s.heap.objs.size + 4)) { s with heap := h' }) :
    wpAny (model prog w) A (call (.type "zip") [.str x t, .ref l2]) Q E s := by
  refine callType_new F.called_zip (by decide) (F.typeCall_zip_2 _ _) (F.newCall_zip_2 _ _) (fun obj => F.args_object_init_3 obj _ _) F.entry_zip_new
    (meets_zs_new x t l2 ys ha) ⟨hl2, ?_⟩
  have z1 : (zsH1 s.heap x t).objs.size = s.heap.objs.size + 1 := Heap.size_push ..
  have z2 : (zsH2 s.heap x t l2).objs.size = s.heap.objs.size + 2 := by rw [Heap.size_push, z1]
  have z3 : (zsH3 s.heap x t l2).objs.size = s.heap.objs.size + 3 := by rw [Heap.size_push, z2]
  have z4 : (zsH4 s.heap x t l2).objs.size = s.heap.objs.size + 4 := by rw [Heap.size_push, z3]
  have g5 : (zsH5 s.heap x t l2).get? (zsH4 s.heap x t l2).objs.size = some _ := Heap.get?_push_size _ rfl
  have g4 : (zsH5 s.heap x t l2).get? (zsH3 s.heap x t l2).objs.size = some _ := Heap.get?_push_of_some _ (Heap.get?_push_size _ rfl)
  have g3 : (zsH5 s.heap x t l2).get? (zsH2 s.heap x t l2).objs.size = some _ := Heap.get?_push_of_some _ (Heap.get?_push_of_some _ (Heap.get?_push_size _ rfl))
  have g2 : (zsH5 s.heap x t l2).get? (zsH1 s.heap x t).objs.size = some _ := Heap.get?_push_of_some _ (Heap.get?_push_of_some _ (Heap.get?_push_of_some _ (Heap.get?_push_size _ rfl)))
  have g1 : (zsH5 s.heap x t l2).get? s.heap.objs.size = some _ := Heap.get?_push_of_some _ (Heap.get?_push_of_some _ (Heap.get?_push_of_some _ (Heap.get?_push_of_some _ (Heap.get?_push_size _ rfl))))
  show _ ∧ _
  rw [z2, z3, z4] at g5
  rw [z1, z2] at g3
  rw [z3] at g4
  rw [z1] at g2
  rw [z4]
  exact ⟨⟨_, g5, rfl⟩, h _ g5 g3 g4 ⟨_, g1, rfl, rfl⟩ ⟨_, g2, rfl, rfl⟩ fun c o x =>
    Heap.get?_push_of_some _ (Heap.get?_push_of_some _ (Heap.get?_push_of_some _ (Heap.get?_push_of_some _ (Heap.get?_push_of_some _ x))))⟩
end
end Mine
end
section
open PySem PySem.W PySem.Calls PyProof.Rows
set_option maxRecDepth 100000
namespace Mine
section
variable {prog : Program} {w : World} {A : Around} {E : Value → Shared → Prop} {s : Shared} {env : Env} {h₀ : Heap} {target : Expr} {body : List Stmt} {Q : Flow → Shared → Prop}
/-- any walk of turns by a word over the ledger -/
theorem turns_inv {I : Addr} {fp wr : List Addr} {n : Nat} {P Md : Nat → Value → Heap → Prop} {St : Nat → Heap → Prop} {m₀ : PySem.Str → Option Value} {news : List (Addr × Obj)} (W : KTurns prog w A target I fp wr n P Md St)
    (hLf : env.locals ∉ fp) (hwr : ∀ b ∈ wr, h₀.get? b = none) (hoff : ∀ p ∈ news, p.1 ∉ fp) (hst : St 0 s.heap) (F : Fr h₀ env.locals s.heap m₀) (N : News h₀ env.locals s.heap news)
    (J : Nat → (PySem.Str → Option Value) → List (Addr × Obj) → Prop) (hj : J 0 m₀ news)
    (turn : ∀ i v m₁ nx h tk own, i < n → P i v h → nx.map (·.1) = news.map (·.1) → OwnOff own (news.map (·.1)) → J i m₁ nx → Fr h₀ env.locals h m₁ → News h₀ env.locals h (nx ++ own) →
      wpAny (model prog w) A (assign target env v) (fun _ s₃ => wpAny (model prog w) A (execs body env) (InvPostN h₀ env.locals (J (i + 1)) own (news.map (·.1)) { s with heap := h, toks := tk } Q) E s₃) E { s with heap := h, toks := tk })
    (done : ∀ m₁ nx h tk, J n m₁ nx → nx.map (·.1) = news.map (·.1) → Fr h₀ env.locals h m₁ → News h₀ env.locals h nx → Q .next { s with heap := h, toks := tk }) :
    TurnsAt prog w A h₀ env target body Q E (.ref I) s := by
  have offn : ∀ nx : List (Addr × Obj), nx.map (·.1) = news.map (·.1) → ∀ p ∈ nx, p.1 ∉ fp := by
    intro nx e p hp hf
    have : p.1 ∈ nx.map (·.1) := List.mem_map_of_mem hp
    rw [e] at this
    obtain ⟨q, hq, eq⟩ := List.mem_map.mp this
    exact hoff q hq (eq ▸ hf)
  refine ⟨I, fp, wr, n, P, Md, St, m₀, news, fun i m nx => nx.map (·.1) = news.map (·.1) ∧ J i m nx, rfl, W, hLf, hwr, fun p hp hw => hoff p hp (W.sub _ hw), hst, F, N, ⟨rfl, hj⟩, ?_, ?_⟩
  · rintro i v m₁ nx h tk own hi hP ⟨ha, hJ⟩ hnw hown _ _ _ F₁ N₁
    have hsep : OwnOff own (news.map (·.1)) := by
      intro p hp b hb e
      obtain ⟨q, hq, rfl⟩ := List.mem_map.mp hb
      exact hoff q hq (e ▸ hown p hp)
    have N₂ : News h₀ env.locals h (nx ++ own) := fun p hp => N₁ p ((List.mem_append.mp hp).elim (fun h => List.mem_append.mpr (.inr h)) fun h => List.mem_append.mpr (.inl h))
    refine wpAny_mono (turn i v m₁ nx h tk own hi hP ha hsep hJ F₁ N₂) (fun _ s₃ q => wpAny_mono q (fun f s₂ p => ?_) fun _ _ e => e) fun _ _ e => e
    have fin : InvEndN h₀ env.locals (J (i + 1)) own (news.map (·.1)) { s with heap := h, toks := tk } s₂ → LoopStepU h₀ env.locals wr own (fun m nx => nx.map (·.1) = news.map (·.1) ∧ J (i + 1) m nx) { s with heap := h, toks := tk } .next s₂ := by
      rintro ⟨h', tk, m', news', ny, e, F', N', hn, ho, ha, hm⟩
      refine ⟨rfl, h', tk, m', ny, e, F', fun p hp => N' p ((List.mem_append.mp hp).elim (ho p) (hn p)), fun p hp hq => ?_, ha, hm⟩
      exact offn ny ha p hp (W.sub _ hq)
    cases f with
    | ret v => exact .ret p
    | brk => exact .brk p
    | next => exact .next (fin p)
    | cont => exact .cont (fin p)
  · rintro h' tk m' nx F' N' _ ⟨ha, hJ⟩
    exact done m' nx h' tk hJ ha F' N'
end
section
variable {prog : Program} {w : World} {A : Around} {E : Value → Shared → Prop} {s : Shared} {env : Env} {h₀ : Heap} {body : List Stmt} {Q : Flow → Shared → Prop}
/-- a loop over a zip of a text's signs and a list -/
theorem zs_loop {elts : List Expr} {k : Nat} {pos : Pos} {x : PySem.Str} {xt : Tok} {l2 : Addr} {ys : List Value} {m₀ : PySem.Str → Option Value} {news : List (Addr × Obj)} (hh : A.handled = none) (ha : x.cps.all (· < 128) = true) (hlen : x.cps.size = ys.length)
    (F : Fr h₀ env.locals s.heap m₀) (N : News h₀ env.locals s.heap news) (hl2 : s.heap.IsList l2 ys.toArray) (hL2 : env.locals ≠ l2) (hn2 : ∀ p ∈ news, p.1 ≠ l2)
    (J : Nat → (PySem.Str → Option Value) → List (Addr × Obj) → Prop) (hj : J 0 m₀ news)
    (turn : ∀ i c t y T m₁ nx h tk own, x.cps[i]? = some c → ys[i]? = some y → IsTup h T #[.str ⟨#[c]⟩ t, y] → nx.map (·.1) = news.map (·.1) → OwnOff own (news.map (·.1)) → J i m₁ nx → Fr h₀ env.locals h m₁ → News h₀ env.locals h (nx ++ own) →
      wpAny (model prog w) A (assign (.Tuple elts k pos) env (.ref T)) (fun _ s₃ => wpAny (model prog w) A (execs body env) (InvPostN h₀ env.locals (J (i + 1)) own (news.map (·.1)) { s with heap := h, toks := tk } Q) E s₃) E { s with heap := h, toks := tk })
    (done : ∀ m₁ nx h tk, J x.cps.size m₁ nx → nx.map (·.1) = news.map (·.1) → Fr h₀ env.locals h m₁ → News h₀ env.locals h nx → Q .next { s with heap := h, toks := tk }) :
    wpAny (model prog w) A (call (.type "zip") [.str x xt, .ref l2]) (fun xv s₁ => wpAny (model prog w) A (pyIter xv) (fun it s₂ => TurnsAt prog w A h₀ env (.Tuple elts k pos) body Q E it s₂) E s₁) E s := by
  refine call_zs ha hl2 fun h6 hz hTI hTO hi1 hi2 hk6 => ?_
  refine wpAny_pyIter_zip hz ?_
  have hl2lt : l2 < s.heap.objs.size := by obtain ⟨o, e, _⟩ := hl2; exact Heap.lt_size e
  have hLlt : env.locals < s.heap.objs.size := F.ns.lt
  have hnlt : ∀ p ∈ news, p.1 < s.heap.objs.size := fun p hp => Heap.lt_size (N p hp).1
  have ne0 : ∀ {a : Nat} (j : Nat), a < s.heap.objs.size → a ≠ s.heap.objs.size + j := fun j h => Nat.ne_of_lt (Nat.lt_of_lt_of_le h (Nat.le_add_right _ _))
  have nej : ∀ {i j : Nat}, i ≠ j → s.heap.objs.size + i ≠ s.heap.objs.size + j := fun h e => h (Nat.add_left_cancel e)
  have D : ZApart (s.heap.objs.size + 4) (s.heap.objs.size + 2) (s.heap.objs.size + 3) s.heap.objs.size (s.heap.objs.size + 1) l2 :=
    ⟨nej (by decide), nej (by decide), nej (i := 0) (by decide), nej (by decide), nej (by decide), nej (j := 0) (by decide), nej (by decide), nej (j := 0) (by decide), nej (by decide), nej (i := 0) (by decide), ne0 4 hl2lt, ne0 3 hl2lt, ne0 0 hl2lt, ne0 1 hl2lt⟩
  have F6 : Fr h₀ env.locals h6 m₀ := F.keeps hk6
  have N6 : News h₀ env.locals h6 news := N.grown hk6
  have new0 : ∀ j : Nat, h₀.get? (s.heap.objs.size + j) = none := fun j => Heap.get?_none_of_le (Nat.le_trans F.above (Nat.le_trans (Nat.le_of_lt hLlt) (Nat.le_add_right _ _)))
  refine turns_inv (KTurns.ofWalksU (zs_walk hh _ _ _ _ _ l2 D x xt ys.toArray (by rw [List.size_toArray]; exact hlen))) ?_ ?_ ?_ ⟨hz, hTI, ⟨_, _, hTO⟩, hi1, hi2, hl2.at fun o e => hk6 l2 o e⟩ F6 N6 J hj ?_ ?_
  · intro hm
    simp only [List.mem_cons, List.not_mem_nil, or_false] at hm
    rcases hm with e | e | e | e | e | e
    · exact ne0 4 hLlt e
    · exact ne0 2 hLlt e
    · exact ne0 3 hLlt e
    · exact ne0 0 hLlt e
    · exact ne0 1 hLlt e
    · exact hL2 e
  · intro b hb
    simp only [List.mem_cons, List.not_mem_nil, or_false] at hb
    rcases hb with rfl | rfl | rfl | rfl
    · exact new0 4
    · exact new0 3
    · exact new0 0
    · exact new0 1
  · intro p hp hm
    have hlt := hnlt p hp
    simp only [List.mem_cons, List.not_mem_nil, or_false] at hm
    rcases hm with e | e | e | e | e | e
    · exact ne0 4 hlt e
    · exact ne0 2 hlt e
    · exact ne0 3 hlt e
    · exact ne0 0 hlt e
    · exact ne0 1 hlt e
    · exact hn2 p hp e
  · rintro i v m₁ nx h tk own hi ⟨T, vals, rfl, ⟨c, t, y, hc, hy, rfl⟩, hT⟩ ha hoff hJ F₁ N₁
    exact turn i c t y T m₁ nx h tk own hc (by simpa using hy) hT ha hoff hJ F₁ N₁
  · exact done
end
theorem fr_stored {g h : Heap} {L : Addr} {m₀ m₁ : PySem.Str → Option Value} {stored : List PySem.Str} (hm : ∀ z, stored.contains z = false → m₁ z = m₀ z) (F : Fr g L h m₁) : Fr g L h (fun z => if stored.contains z then m₁ z else m₀ z) := by
  have e : (fun z => if stored.contains z then m₁ z else m₀ z) = m₁ := by
    funext z
    cases hz : stored.contains z with
    | true => simp
    | false => simp [hm z hz]
  rw [e]; exact F
end Mine
end
section
open PySem PySem.W PySem.Calls PyProof.Rows
set_option maxRecDepth 100000
namespace Mine
theorem lines_D0 : True := by
  w_top off
  k_with_none
  k_with "call builtin:len" => (k_here; (with_reducible show wpAny _ _ (call (Value.builtin "len") [Value.ref _]) _ _ _); k_dflt (refine kst_len (by k_asm) (by k_memK) (by assumption) (by omega) ?_; k_whole))
  k_with "call builtin:list.pop" => (k_here; k_dflt (refine Mine.pop_snoc (by k_asm) (by k_asm) (by k_upd) (by first | omega | ((simp only [List.length_append, List.length_cons, List.length_nil] at *); omega)) ?_); k_whole; (intro h' F' N'; (try dsimp only [List.nil_append, List.cons_append] at N'); revert h'; intros))
  k_with "compareOp NotEq ref ref" => (k_here; (with_reducible show wpAny _ _ (compareOp CmpOp.NotEq (Value.ref _) (Value.ref _)) _ _ _); k_dflt (refine Mine.ne_strs (by is_list) (by is_list) (by first | assumption | exact StrsAre.nil) (by first | assumption | exact StrsAre.nil) (by first | assumption | exact Mine.nil_ok | exact Mine.cls_ok _) (by first | assumption | exact Mine.nil_ok | exact Mine.cls_ok _) (by ((have hcL9 := cLine_is); (simp only [units_in1, units_deeper, Around.mark_units, units_caller] at *); (try dsimp only [ktrTop] at *); omega)) ?_))
  trivial

section
variable {w : World} {mean : ExcName → Option Value} {mg mb : PySem.Str → Option Value} {f : Addr} {size usize : Nat} {args : List Value} {mt : List (Addr × Obj)} {Pre : Heap → Prop} {Post : Heap → List (Addr × Obj) → Value → Prop}
  {dp un : Nat} {gd : Option (List Code)} {cn : PySem.Str} {cs : Scope} {a : Addr} {ccd : Value} {cl : List (PySem.Str × Addr)} {outer : List Env} {A₀ : Around} {base h₀ : Heap} {L : Addr} {m : PySem.Str → Option Value} {s : Shared} {news : List (Addr × Obj)}
  {Q E : Value → Shared → Prop}
/-- a contract that changes nothing, at a call -/
theorem use_pure (C : Tell w mean mg mb f size usize args [] Pre Post) (B : Below A₀ base outer h₀) (F : Fr h₀ L s.heap m) (X : (hd.heap_39 w.params).In h₀) (N : News h₀ L s.heap news)
    (T : Top hd.view_39 (looseW hd.view_39 [Str.ofString "EXACT_TOKEN_TYPES", Str.ofString "_twin_re_1", Str.ofString "_twin_re_2", Str.ofString "Whitespace"]) mean mg mb h₀) (hk : cs.kind = .function) (hd1 : dp + size < recursionLimit) (hu : un + usize < cLine) (hpre : Pre s.heap)
    (ret : ∀ r tl h' tk', Fr h₀ L h' m → News h₀ L h' (tl ++ news) → s.heap.StaysIn h' → (∀ p ∈ tl, h'.get? p.1 = some p.2) → Post h' tl r → Q r { s with heap := h', toks := tk' }) :
    wpAny (model PySem.Challenge.rw_rw0103_01.row.prog w) (ktrTop dp un gd cn cs L a ccd cl outer) (call (.ref f) args) Q E s :=
  C _ _ _ _ _ _ _ _ _ _ _ _ _ _ _ _ _ B F X News.nil T hk hd1 hu hpre fun r tl h' tk' F' N' st hp =>
    ret r tl h' tk' F' (fun p hp => (List.mem_append.mp hp).elim (N' p) fun h => ⟨st _ _ (N p h).1, (N p h).2⟩) st (fun p hp => (N' p hp).1) hp
end
set_option maxHeartbeats 40000000 in
theorem nonterm_tell (w : World) (mean mg mb) (t : Int) (tt : Tok) :
    Tell w mean mg mb 48 1 10 [.int t tt] [] (fun _ => True) (fun _ tl r => tl = [] ∧ r = .bool (decide (256 ≤ t))) := by
  unfold Tell
  k_fill
  intro dp un gd cn cs a ccd cl outer A₀ base h₀ L m s Q E B F X N T hk hd hu hpre hret
  k_dflt (refine' enter ?k1 ?k2 ?k3 ?k4 ?k5 ?kK ?k6 ?k7 ?k8 ?k9 ?kB ?_ ?c2 ?c3 ?c4 ?c5; (case kK => assumption); (case k1 => k_asm); (case k2 => k_asm); (case k3 => k_asm); (case k4 => k_asm); (case k5 => k_asm); (case k6 => k_is); (case k7 => k_is); (case k8 => omega); (case k9 => exact BindsTo.of_eq rfl); (case c5 => decide); (case kB => exact locs rfl); (case c2 => exact rfl); (case c3 => exact rfl); (case c4 => exact rfl); k_whole)
  intro g1 L1 h1 eg F1 N1 l1 B1 X1 T1
  replace F1 := fr1 F1
  rw [← eg] at hret
  clear l1
  generalize s.toks + _ = tk1
  (try k_fold)
  k_steps
  rename Fr g1 _ _ _ => F9
  rename Fr h₀ _ _ _ => kF
  rename News h₀ _ _ _ => kN
  exact hret _ _ _ _ kF kN F9.keep ⟨rfl, by simp⟩
set_option maxHeartbeats 40000000 in
theorem eof_tell (w : World) (mean mg mb) (t : Int) (tt : Tok) :
    Tell w mean mg mb 55 1 10 [.int t tt] [] (fun _ => True) (fun _ tl r => tl = [] ∧ r = .bool (decide (t = 0))) := by
  unfold Tell
  k_fill
  intro dp un gd cn cs a ccd cl outer A₀ base h₀ L m s Q E B F X N T hk hd hu hpre hret
  k_dflt (refine' enter ?k1 ?k2 ?k3 ?k4 ?k5 ?kK ?k6 ?k7 ?k8 ?k9 ?kB ?_ ?c2 ?c3 ?c4 ?c5; (case kK => assumption); (case k1 => k_asm); (case k2 => k_asm); (case k3 => k_asm); (case k4 => k_asm); (case k5 => k_asm); (case k6 => k_is); (case k7 => k_is); (case k8 => omega); (case k9 => exact BindsTo.of_eq rfl); (case c5 => decide); (case kB => exact locs rfl); (case c2 => exact rfl); (case c3 => exact rfl); (case c4 => exact rfl); k_whole)
  intro g1 L1 h1 eg F1 N1 l1 B1 X1 T1
  replace F1 := fr1 F1
  rw [← eg] at hret
  clear l1
  generalize s.toks + _ = tk1
  (try k_fold)
  k_steps
  rename Fr g1 _ _ _ => F9
  rename Fr h₀ _ _ _ => kF
  rename News h₀ _ _ _ => kN
  exact hret _ _ _ _ kF kN F9.keep ⟨rfl, by congr 1⟩
end Mine
end
section
open PySem PySem.W PySem.Calls PyProof.Rows
set_option maxRecDepth 100000
namespace Mine
theorem lines_D1 : True := by
  w_top off
  k_with_none
  k_with "call builtin:len" => (k_here; (with_reducible show wpAny _ _ (call (Value.builtin "len") [Value.ref _]) _ _ _); k_dflt (refine kst_len (by k_asm) (by k_memK) (by assumption) (by omega) ?_; k_whole))
  k_with "call builtin:list.pop" => (k_here; k_dflt (refine Mine.pop_snoc (by k_asm) (by k_asm) (by k_upd) (by first | omega | ((simp only [List.length_append, List.length_cons, List.length_nil] at *); omega)) ?_); k_whole; (intro h' F' N'; (try dsimp only [List.nil_append, List.cons_append] at N'); revert h'; intros))
  k_with "compareOp NotEq ref ref" => (k_here; (with_reducible show wpAny _ _ (compareOp CmpOp.NotEq (Value.ref _) (Value.ref _)) _ _ _); k_dflt (refine Mine.ne_strs (by is_list) (by is_list) (by first | assumption | exact StrsAre.nil) (by first | assumption | exact StrsAre.nil) (by first | assumption | exact Mine.nil_ok | exact Mine.cls_ok _) (by first | assumption | exact Mine.nil_ok | exact Mine.cls_ok _) (by ((have hcL9 := cLine_is); (simp only [units_in1, units_deeper, Around.mark_units, units_caller] at *); (try dsimp only [ktrTop] at *); omega)) ?_))
  trivial
set_option maxHeartbeats 40000000 in
theorem drawn_tell (w : World) (mean mg mb) (l : Addr) (vs : List Value) (ns : List Int) (hi : IntsAre vs ns) (hl : ns.length ≤ 5) :
    Tell w mean mg mb 145 1 100 [.ref l] [] (fun g => g.IsList l vs.toArray) (fun _ news r => ∃ f tk, Fo.ok f ∧ f.size = ns.length ∧ r = .str (sOf f.txt) tk) := by
  unfold Tell
  k_fill
  intro dp un gd cn cs a ccd cl outer A₀ base h₀ L m s Q E B F X N T hk hd hu hpre hret
  k_dflt (refine' enter ?k1 ?k2 ?k3 ?k4 ?k5 ?kK ?k6 ?k7 ?k8 ?k9 ?kB ?_ ?c2 ?c3 ?c4 ?c5; (case kK => assumption); (case k1 => k_asm); (case k2 => k_asm); (case k3 => k_asm); (case k4 => k_asm); (case k5 => k_asm); (case k6 => k_is); (case k7 => k_is); (case k8 => omega); (case k9 => exact BindsTo.of_eq rfl); (case c5 => decide); (case kB => exact locs rfl); (case c2 => exact rfl); (case c3 => exact rfl); (case c4 => exact rfl); k_whole)
  intro g1 L1 h1 eg F1 N1 l1 B1 X1 T1
  replace F1 := fr1 F1
  rw [← eg] at hpre hret
  simp only [List.map_nil, hideAll] at eg
  clear l1
  have hI := And.intro trivial hi
  clear hi
  generalize s.toks + _ = tk1
  refine Mine.hold3 (by passes_own) fun Q0 E0 hQ0 hE0 => ?_
  (try k_fold)
  k_steps
  rename_i lP _ _ _ _ _ _ _ _ F3 N3
  have N2 : News _ _ _ [(_, _)] := fun p hp => N3 p (List.Mem.tail _ hp)
  (with_unfolding_all refine' For_invVF F3 ?k1 ?k2 ?_; (case k1 => exact rfl); (case k2 => exact rfl))
  k_steps
  with_unfolding_all refine' kst_list (σ := List Nat × Tok × List Nat × List Value × Nat) (fun c => [(lP, listOf c.2.2.2.1.toArray c.2.2.2.2)]) (fun c => [(Str.ofString "text", .str (sOf c.1) c.2.1), (Str.ofString "pile", .ref lP)]) (fun c => StrsAre c.2.2.2.1 (c.2.2.1.reverse.map fun k => sOf [cls k])) [Str.ofString "deep"] (fun pre c => Op c.1 c.2.2.1 pre.length) ([], tk1, [], [], 0) ?kh hpre hI.2 ?kF ?kN ?kf ?kP ?kp ?kT ?kD
  case kh => rfl
  case kF => exact F3
  case kN => exact N2
  case kf => exact .nil
  case kp => exact .base .nil trivial
  case kP =>
    intro p hp
    simp only [List.mem_cons, List.not_mem_nil, or_false] at hp
    rcases hp with rfl | rfl <;> rfl
  case kT =>
    intro c6 pre post n nt u h3 tk4 own e1 hm hoff hf hP F4 N4
    clear F3 N3 N2
    refine shut fun P9 hP9 => ?_
    obtain ⟨t, tk3, p, pv, pn, rfl⟩ : ∃ t tk3 p pv pn, c6 = (t, tk3, p, pv, pn) := ⟨_, _, _, _, _, rfl⟩
    dsimp only [List.cons_append, List.nil_append, List.map_cons, List.map_nil, kstB] at hf hP F4 N4 hoff
    refine hP9 ?_
    clear hP9
    dsimp only [List.cons_append, List.nil_append, List.map_cons, List.map_nil, kstB]
    have kM : KstMark := kstMark
    have hlen := hf.length
    have hd1 := hP.depth
    have hd2 := hP.len
    have hd3 : pre.length < 5 := by rw [e1] at hl; simp at hl; omega
    simp only [List.length_map, List.length_reverse] at hlen
    clear e1
    generalize hr : (Stmt.While _ _ _ _ :: _ : List Stmt) = rest
    (try k_fold)
    k_steps
    subst hr
    refine wpAny_execs_cons ?_
    rename_i h5 F5 N5
    dsimp only at F5 ⊢
    generalize s.toks + _ = tk6
    have hdeep : 0 ≤ n.fmod (↑p.length + 1) := Int.fmod_nonneg_of_pos _ (by omega)
    generalize n.fmod (↑p.length + 1) = deep at F5 hdeep
    with_unfolding_all refine' ksw_while (σ := List Nat × Tok × List Nat × List Value × Nat) (fun c => (lP, listOf c.2.2.2.1.toArray c.2.2.2.2) :: own) (fun c => [(Str.ofString "text", .str (sOf c.1) c.2.1), (Str.ofString "pile", .ref lP)]) (fun c => StrsAre c.2.2.2.1 (c.2.2.1.reverse.map fun k => sOf [cls k])) [] (fun c => Op c.1 c.2.2.1 pre.length) (fun c => c.2.2.1.length) (t, tk3, p, pv, pn) ?kF ?kN ?kf ?kP ?kp ?kT
    case kF => exact F5
    case kN => exact N5
    case kf => exact hf
    case kp => exact hP
    case kP =>
      intro p hp
      simp only [List.mem_cons, List.not_mem_nil, or_false] at hp
      rcases hp with rfl | rfl <;> rfl
    clear F5 N5 hf hP hlen hd1 hd2
    intro c6 u6 h6 tk6 hf hP F6 N6
    refine shut fun P9 hP9 => ?_
    obtain ⟨t, tk3, p, pv, pn, rfl⟩ : ∃ t tk3 p pv pn, c6 = (t, tk3, p, pv, pn) := ⟨_, _, _, _, _, rfl⟩
    dsimp only [kstB] at hf hP F6 N6
    refine hP9 ?_
    clear hP9
    dsimp only [kstB]
    have hlen := hf.length
    have hd1 := hP.depth
    have hd2 := hP.len
    simp only [List.length_map, List.length_reverse] at hlen
    have hsl := sOf_len t
    (try k_fold)
    k_steps
    case _ =>
      rename_i hlt
      refine shut fun P9 hP9 => ?_
      cases p with
      | nil => simp only [List.length_nil, Int.natCast_zero, Int.ofNat_zero] at hlt; omega
      | cons k p =>
      simp only [List.reverse_cons, List.map_append, List.map_cons, List.map_nil] at hf
      obtain ⟨pv, kt, rfl, hf⟩ := strs_snoc hf
      refine hP9 ?_
      clear hP9
      (try k_fold)
      k_steps
      rename_i h7 tk7 _ _ h8 F8 N8
      clear hlen
      rename_i hf9 hf8 _
      rw [sOf_app] at F8
      exact ksw_end (t ++ [cls k], tk7, p, pv, pn + 1) F8 N8 (fun _ h => h) hf9 (each_cons rfl (each_cons rfl each_nil)) (by ksw_same) hP.close (by simp)
    case _ =>
      rename_i F8 N8
      have hk0 : 0 ≤ (n.fdiv 60).fmod 3 := Int.fmod_nonneg_of_pos _ (by omega)
      have hk3 : (n.fdiv 60).fmod 3 < 3 := Int.fmod_lt_of_pos _ (by omega)
      rw [item_open hk0 hk3, sOf_app] at F8
      rw [item_close hk0 hk3, List.push_toArray] at N8
      have hkn : ((n.fdiv 60).fmod 3).toNat < 3 := by omega
      exact kst_end (t ++ [opn ((n.fdiv 60).fmod 3).toNat], _, ((n.fdiv 60).fmod 3).toNat :: p, pv ++ [_], pn + 1) F8 N8 (fun _ h => List.mem_cons.mpr (.inl (List.mem_singleton.mp h))) (fun _ h => List.mem_cons_of_mem _ h) rfl
        (by simp only [List.reverse_cons, List.map_append, List.map_cons, List.map_nil]; exact StrsAre.append' hf (.cons _ _ .nil))
        (each_cons rfl (each_cons rfl each_nil)) (by kst_same) (by simpa using hP.opens hkn)
  case kD =>
    intro c6 u h4 tk4 hf hP F4 N4
    clear F3 N3 N2
    refine shut fun P9 hP9 => ?_
    obtain ⟨t, tk3, p, pv, pn, rfl⟩ : ∃ t tk3 p pv pn, c6 = (t, tk3, p, pv, pn) := ⟨_, _, _, _, _, rfl⟩
    dsimp only [List.cons_append, List.nil_append, List.map_cons, List.map_nil, kstB] at hf hP F4 N4
    refine hP9 ?_
    clear hP9
    dsimp only [List.cons_append, List.nil_append, List.map_cons, List.map_nil, kstB]
    have kM : KstMark := kstMark
    have hlen := hf.length
    have hd1 := hP.depth
    have hd2 := hP.len
    simp only [List.length_map, List.length_reverse] at hlen
    refine wpAny_execs_cons ?_
    with_unfolding_all refine' ksw_while (σ := List Nat × Tok × List Nat × List Value × Nat) (fun c => [(lP, listOf c.2.2.2.1.toArray c.2.2.2.2)]) (fun c => [(Str.ofString "text", .str (sOf c.1) c.2.1), (Str.ofString "pile", .ref lP)]) (fun c => StrsAre c.2.2.2.1 (c.2.2.1.reverse.map fun k => sOf [cls k])) [] (fun c => Op c.1 c.2.2.1 ns.length) (fun c => c.2.2.1.length) (t, tk3, p, pv, pn) ?jF ?jN ?jf ?jP ?jp ?jT
    case jF => exact F4
    case jN => exact N4
    case jf => exact hf
    case jp => exact hP
    case jP =>
      intro p hp
      simp only [List.mem_cons, List.not_mem_nil, or_false] at hp
      rcases hp with rfl | rfl <;> rfl
    clear F4 N4 hf hP hlen hd1 hd2
    intro c6 u6 h6 tk6 hf hP F6 N6
    refine shut fun P9 hP9 => ?_
    obtain ⟨t, tk3, p, pv, pn, rfl⟩ : ∃ t tk3 p pv pn, c6 = (t, tk3, p, pv, pn) := ⟨_, _, _, _, _, rfl⟩
    dsimp only [kstB] at hf hP F6 N6
    refine hP9 ?_
    clear hP9
    dsimp only [kstB]
    have hlen := hf.length
    have hd1 := hP.depth
    have hd2 := hP.len
    simp only [List.length_map, List.length_reverse] at hlen
    have hsl := sOf_len t
    (try k_fold)
    k_steps
    case _ =>
      rename decide _ = _ => hlt
      refine hQ0 _ _ ?_
      k_steps
      rename Fr g1 _ _ _ => FE
      rename Fr h₀ _ _ _ => kF
      rename News h₀ _ _ _ => kN
      cases p with
      | cons k p => simp at hlt
      | nil =>
      obtain ⟨f, f1, f2, f3⟩ := hP.done
      exact hret _ _ _ _ kF kN FE.keep ⟨f, tk3, f1, f2, by rw [f3]⟩
    case _ =>
      rename decide _ = _ => hlt
      refine shut fun P9 hP9 => ?_
      cases p with
      | nil => simp at hlt
      | cons k p =>
      simp only [List.reverse_cons, List.map_append, List.map_cons, List.map_nil] at hf
      obtain ⟨pv, kt, rfl, hf9⟩ := strs_snoc hf
      refine hP9 ?_
      clear hP9
      (try k_fold)
      k_steps
      rename Fr g1 _ _ _ => F8
      rename News g1 _ _ _ => N8
      rw [sOf_app] at F8
      exact ksw_end (t ++ [cls k], _, p, pv, pn + 1) F8 N8 (fun _ h => .tail _ h) hf9 (each_cons rfl (each_cons rfl each_nil)) (by ksw_same) hP.close (by simp)
end Mine
end
section
open PySem PySem.W PySem.Calls PyProof.Rows
set_option maxRecDepth 100000
namespace Mine
theorem lines_D2 : True := by
  w_top off
  k_with_none
  k_with "call builtin:len" => (k_here; (with_reducible show wpAny _ _ (call (Value.builtin "len") [Value.ref _]) _ _ _); k_dflt (refine kst_len (by k_asm) (by k_memK) (by assumption) (by omega) ?_; k_whole))
  k_with "call builtin:list.pop" => (k_here; k_dflt (refine Mine.pop_snoc (by k_asm) (by k_asm) (by k_upd) (by first | omega | ((simp only [List.length_append, List.length_cons, List.length_nil] at *); omega)) ?_); k_whole; (intro h' F' N'; (try dsimp only [List.nil_append, List.cons_append] at N'); revert h'; intros))
  k_with "compareOp NotEq ref ref" => (k_here; (with_reducible show wpAny _ _ (compareOp CmpOp.NotEq (Value.ref _) (Value.ref _)) _ _ _); k_dflt (refine Mine.ne_strs (by is_list) (by is_list) (by first | assumption | exact StrsAre.nil) (by first | assumption | exact StrsAre.nil) (by first | assumption | exact Mine.nil_ok | exact Mine.cls_ok _) (by first | assumption | exact Mine.nil_ok | exact Mine.cls_ok _) (by ((have hcL9 := cLine_is); (simp only [units_in1, units_deeper, Around.mark_units, units_caller] at *); (try dsimp only [ktrTop] at *); omega)) ?_))
  k_with "getMethod ref" => (k_here; (with_reducible show wpAny _ _ (getMethod (Value.ref _) (PySem.Str.ofString "sub") _) _ _ _); k_dflt (first | (refine Mine.pat_method (Mine.pat60 (by assumption)) (by k_asm) ?_) | (refine Mine.pat_method (Mine.pat65 (by assumption)) (by k_asm) ?_)))
  k_with "call builtin:re.Pattern.sub" => (k_here; k_dflt (first | (refine Mine.sub2_call (Mine.pat65 (by assumption)) (by k_asm) Mine.crlf_is rfl (by assumption) ?_) | (refine Mine.sub1_call (Mine.pat60 (by assumption)) (by k_asm) Mine.dots_is rfl (by assumption) ?_)); (intro _ _ _ _))
  trivial

set_option maxHeartbeats 40000000 in
theorem quote_tell (w : World) (mean mg mb) (x : List Nat) (xt : Tok) (hl : x.length ≤ 400) :
    Tell w mean mg mb 72 1 100 [.str (sOf x) xt] [] (fun _ => True) (fun _ _ r => ∃ tk, r = .str (sOf (dots true (norm x))) tk) := by
  unfold Tell
  k_fill
  intro dp un gd cn cs a ccd cl outer A₀ base h₀ L m s Q E B F X N T hk hd hu hpre hret
  k_dflt (refine' enter ?k1 ?k2 ?k3 ?k4 ?k5 ?kK ?k6 ?k7 ?k8 ?k9 ?kB ?_ ?c2 ?c3 ?c4 ?c5; (case kK => assumption); (case k1 => k_asm); (case k2 => k_asm); (case k3 => k_asm); (case k4 => k_asm); (case k5 => k_asm); (case k6 => k_is); (case k7 => k_is); (case k8 => omega); (case k9 => exact BindsTo.of_eq rfl); (case c5 => decide); (case kB => exact locs rfl); (case c2 => exact rfl); (case c3 => exact rfl); (case c4 => exact rfl); k_whole)
  intro g1 L1 h1 eg F1 N1 l1 B1 X1 T1
  replace F1 := fr1 F1
  rw [← eg] at hret
  simp only [List.map_nil, hideAll] at eg
  clear l1
  generalize s.toks + _ = tk1
  have hx1 : x.length ≤ 1000 := by omega
  have hx2 : (norm x).length ≤ 1000 := by have := len_norm _ x (Nat.le_refl _); omega
  (try k_fold)
  k_steps
  rename Fr g1 _ _ _ => F9
  dsimp only
  exact leaveK_ F9 News.nil fun kF kN => hret _ _ _ _ kF kN F9.keep ⟨_, rfl⟩
end Mine
end
section
open PySem PySem.W PySem.Calls PyProof.Rows
set_option maxRecDepth 100000
namespace Mine
theorem lines_D3 : True := by
  w_top off
  k_with_none
  k_with "call builtin:len" => (k_here; (with_reducible show wpAny _ _ (call (Value.builtin "len") [Value.ref _]) _ _ _); k_dflt (refine kst_len (by k_asm) (by k_memK) (by assumption) (by omega) ?_; k_whole))
  k_with "call builtin:list.pop" => (k_here; k_dflt (refine Mine.pop_snoc (by k_asm) (by k_asm) (by k_upd) (by first | omega | ((simp only [List.length_append, List.length_cons, List.length_nil] at *); omega)) ?_); k_whole; (intro h' F' N'; (try dsimp only [List.nil_append, List.cons_append] at N'); revert h'; intros))
  k_with "compareOp NotEq ref ref" => (k_here; (with_reducible show wpAny _ _ (compareOp CmpOp.NotEq (Value.ref _) (Value.ref _)) _ _ _); k_dflt (refine Mine.ne_strs (by is_list) (by is_list) (by first | assumption | exact StrsAre.nil) (by first | assumption | exact StrsAre.nil) (by first | assumption | exact Mine.nil_ok | exact Mine.cls_ok _) (by first | assumption | exact Mine.nil_ok | exact Mine.cls_ok _) (by ((have hcL9 := cLine_is); (simp only [units_in1, units_deeper, Around.mark_units, units_caller] at *); (try dsimp only [ktrTop] at *); omega)) ?_))
  k_with "compareOp In ref ref" => (k_here; (with_reducible show wpAny _ _ (compareOp CmpOp.In (Value.ref _) (Value.ref _)) _ _ _); k_dflt (refine Mine.in_br (by ke_read) (by ke_read) (by exact rfl) (by assumption) (by assumption) (by (dsimp only [ktrTop]; omega)) ?_))
  k_with "call ref" => (k_here; (with_reducible show wpAny _ _ (call (Value.ref _) [Value.int _ _]) _ _ _); k_dflt (first | (refine Mine.use_pure (Mine.nonterm_tell _ _ _ _ _ _) (by k_asm) (by k_asm) (by k_asm) (by k_asm) (by k_asm) (by first | rfl | assumption) (by omega) (by omega) trivial ?_) | (refine Mine.use_pure (Mine.eof_tell _ _ _ _ _ _) (by k_asm) (by k_asm) (by k_asm) (by k_asm) (by k_asm) (by first | rfl | assumption) (by omega) (by omega) trivial ?_)); (intro r9 tl9 h9 tk9 F9 N9 st9 ob9 hp9; obtain ⟨e9, q9⟩ := hp9; subst e9; subst q9; simp only [List.nil_append] at N9; clear ob9; (try dsimp only); (try rw [decide_eq_true (by assumption)]); (try rw [decide_eq_false (by assumption)]); revert h9 tk9; intros))
  k_with "subscriptTail" => (k_here; (with_reducible show wpAny _ _ (subscriptTail _ _ (Value.ref _) (Value.int (_ - 256) _)) _ _ _); k_dflt (refine Mine.prime_item (by k_asm) (by k_asm) (by exact And.right (a := True) (by assumption)) (by assumption) (by assumption) ?_); intro _)
  k_with "binaryOp Mult int int" => (k_here; (refine Mine.mul_pr ?_))
  trivial

set_option maxHeartbeats 40000000 in
theorem told_tell (w : World) (mean mg mb) (old : Heap) (x : List Nat) (xt : Tok) (lp : Addr) (pv : List Value) (res : List Int) (hl : x.length ≤ 20) (hb : ∀ c ∈ x, isBr c) (hi : IntsAre pv PR) (hrun : run (x ++ [32]) [] [] [255] = some res) :
    Tell w mean mg mb 150 5 100 [.str (sOf x) xt, .ref lp] [] (fun g => g.IsList lp pv.toArray ∧ ∀ a o, old.get? a = some o → g.get? a = some o) (fun _ news r => ∃ a rv k, r = .ref a ∧ (a, listOf rv.toArray k) ∈ news ∧ IntsAre rv res ∧ old.get? a = none) := by
  unfold Tell
  k_fill
  intro dp un gd cn cs a ccd cl outer A₀ base h₀ L m s Q E B F X N T hk hd hu hpre hret
  k_dflt (refine' enter ?k1 ?k2 ?k3 ?k4 ?k5 ?kK ?k6 ?k7 ?k8 ?k9 ?kB ?_ ?c2 ?c3 ?c4 ?c5; (case kK => assumption); (case k1 => k_asm); (case k2 => k_asm); (case k3 => k_asm); (case k4 => k_asm); (case k5 => k_asm); (case k6 => k_is); (case k7 => k_is); (case k8 => omega); (case k9 => exact BindsTo.of_eq rfl); (case c5 => decide); (case kB => exact locs rfl); (case c2 => exact rfl); (case c3 => exact rfl); (case c4 => exact rfl); k_whole)
  intro g1 L1 h1 eg F1 N1 l1 B1 X1 T1
  replace F1 := fr2 F1
  rw [← eg] at hret hpre
  obtain ⟨hpre, hold⟩ := hpre
  simp only [List.map_nil, hideAll] at eg
  clear l1
  have hI := And.intro trivial hi
  clear hi
  generalize s.toks + _ = tk1
  have hsl := sOf_len x
  have kM : KstMark := kstMark
  refine Mine.hold3 (by passes_own) fun Q0 E0 hQ0 hE0 => ?_
  generalize hr : (Stmt.For _ _ _ _ _ :: _ : List Stmt) = rest
  (try k_fold)
  k_steps
  subst hr
  refine wpAny_execs_cons ?_
  rename_i lTold _ _ lWait _ la lPile _ lb lT _ lc0 _ _ _ _ F3 N3
  clear lc0
  have N4 : News g1 L1 _ [(lPile, _), (lWait, _), (lTold, _)] := fun p hp => N3 p (List.Mem.tail _ hp)
  clear N3
  dsimp only at F3 ⊢
  (with_unfolding_all refine' For_turns F3 ?hf ?hs ?hE)
  case hs => intro _; rfl
  case hE => passes_own
  generalize hlc : Expr.ListComp _ _ _ _ = lc
  (try k_fold)
  k_steps
  subst hlc
  rename_i tt tk6 _
  dsimp only at F3 N4 ⊢
  have hall : (sOf x).cps.all (· < 128) = true := by
    simp only [List.all_toArray, List.all_eq_true, decide_eq_true_eq]
    intro c hc
    rcases hb c hc with h | h | h | h | h | h <;> omega
  (with_unfolding_all refine' ListComp_str (cl := []) F3 ?c1 ?c2 ?c3 ?c4 ?c5 ?ci ?c6)
  case c1 => rfl
  case c2 => decide
  case c3 => rfl
  case c4 => decide
  case c5 => rfl
  case c6 => intro _; rfl
  case ci =>
  k_dflt (refine' nameX_L ?F9 ?v9 ?_ ?a9 ?b9; (case F9 => exact F3); (case a9 => rfl); (case b9 => rfl); (case v9 => rfl))
  refine ⟨_, _, _, rfl, rfl, F3, N4, hall, by rw [sizeLine_eq]; show (sOf x).length ≤ _; omega, ?_⟩
  rintro s2 ⟨h2, rfl⟩
  have hsz : (sOf x).cps.size = x.length := sOf_len x
  rw [hsz]
  refine comp_inv x.length (fun i ys news => IntsAre ys ((x.take i).map sy) ∧ news = [(lPile, listOf #[Value.int (256 - 1) (tk1 + 1)] 0), (lWait, listOf #[] 0), (lTold, listOf #[] 0)]) ?fin ?turn x.length 0 [] _ (by omega) ⟨.nil, rfl⟩
  case turn =>
    rintro i ys news v I oI C oC D m2 h3 tk3 E' hi ⟨hy, rfl⟩ ⟨c, ct, hc, rfl⟩ hC hm2 F5 N5 o3 ne3
    have hc' : x[i]? = some c := by simpa using hc
    have hbc : isBr c := hb c (List.mem_of_getElem? hc')
    k_steps
    refine tok_item F5 X1 hbc fun tk8 tk9 => ?_
    refine LCg.CompEnd.intro F5 N5 _ (fun _ h => h) o3 trivial ⟨?_, rfl⟩
    rw [List.take_add_one, hc', List.map_append]
    exact IntsAre.append hy (.cons _ _ .nil)
  case fin =>
    rintro ys news ⟨hy, rfl⟩
    rw [List.take_length] at hy
    intro D h4 tk4 F6 N6 o1
    simp only [LCg.Off1, and_true] at o1
    clear F3 N4
    have hyl : ys.length = x.length := by have := hy.length; simpa using this
    k_steps
    rename_i l0 _ _ l2 yv h5 F7 N7 hyv lc5
    have e32 : sOf x ++ Str.ofString " " = sOf (x ++ [32]) := by
      rw [← sOf_app]; rfl
    rw [e32]
    have hall2 : (sOf (x ++ [32])).cps.all (· < 128) = true := by
      simp only [List.all_toArray, List.all_eq_true, decide_eq_true_eq]
      intro c hc
      rcases List.mem_append.mp hc with hc | hc
      · rcases hb c hc with h | h | h | h | h | h <;> omega
      · rw [List.mem_singleton.mp hc]; decide
    have hyvl : yv.length = (x ++ [32]).length := by have := hyv.length; simpa using this
    have hL2 : L1 ≠ l2 := Ne.symm (N7 _ (List.Mem.head _)).2.1
    have N8 : News g1 L1 h5 [(lPile, _), (lWait, _), (lTold, _)] := fun p hp => N7 p (List.Mem.tail _ (List.Mem.tail _ (List.Mem.tail _ hp)))
    have hn2 : ∀ p ∈ [(lPile, listOf #[Value.int (256 - 1) (tk1 + 1)] 0), (lWait, listOf #[] 0), (lTold, listOf #[] 0)], p.1 ≠ l2 := by
      intro p hp
      simp only [List.mem_cons, List.not_mem_nil, or_false] at hp
      rcases hp with rfl | rfl | rfl
      · exact Nat.ne_of_lt lc5.2.2.1
      · exact Nat.ne_of_lt lc5.2.2.2.1
      · exact Nat.ne_of_lt lc5.2.2.2.2
    with_unfolding_all refine' zs_loop (m₀ := _) rfl hall2 (by show (sOf (x ++ [32])).length = _; rw [sOf_len, hyvl]) F7 N8 (News.isList N7 (List.Mem.head _)) hL2 hn2 (fun i m nx => (∀ z, [Str.ofString "sign", Str.ofString "symbol", Str.ofString "number"].contains z = false → m z = (if z = Str.ofString "told" then some (Value.ref lTold) else if z = Str.ofString "waiting" then some (Value.ref lWait) else if z = Str.ofString "pile" then some (Value.ref lPile) else if z = Str.ofString "primes" then some (Value.ref lp) else if z = Str.ofString "text" then some (Value.str (sOf x) xt) else none)) ∧ ∃ (told : List Int) (ws : List Nat) (pile : List Int) (tv wv qv : List Value) (kt kw kp : Nat), nx = [(lPile, listOf qv.toArray kp), (lWait, listOf wv.toArray kw), (lTold, listOf tv.toArray kt)] ∧ IntsAre tv told ∧ IntsAre wv (ws.reverse.map Int.ofNat) ∧ IntsAre qv pile.reverse ∧ told.length ≤ i ∧ ws.length ≤ i ∧ pile.length ≤ i + 1 ∧ run ((x ++ [32]).drop i) told ws pile = some res) ?hj ?turn2 ?done
    case hj => exact ⟨fun _ _ => rfl, [], [], [255], [], [], _, 0, 0, 0, rfl, .nil, .nil, .cons _ _ .nil, by simp, by simp, by simp, hrun⟩
    case done =>
      rintro m1 nx h9 tk9 ⟨_, told, ws, pile, tv, wv, qv, kt, kw, kp, _, _, _, _, _, _, _, hr9⟩ _ _ _
      have e9 : (sOf (x ++ [32])).cps.size = (x ++ [32]).length := sOf_len (x ++ [32])
      rw [e9, List.drop_length] at hr9
      cases hr9
    case turn2 =>
      intro i c ct y T m1 nx h9 tk9 own hc hy hT ha hoff hinv F9 N9
      refine shut fun P9 hP9 => ?_
      obtain ⟨hm1, told, ws, pile, tv, wv, qv, kt, kw, kp, rfl, i1, i2, i3, b1, b2, b3, hr9⟩ := hinv
      replace F9 := fr_stored hm1 F9
      have hc' : (x ++ [32])[i]? = some c := by simpa using hc
      obtain ⟨yt, hyt⟩ := hyv.get i (sy c) (by
        rw [show List.map sy x ++ [0] = (x ++ [32]).map sy from by simp [sy], List.getElem?_map, hc']; rfl)
      rw [hyt] at hy
      obtain rfl := Option.some.inj hy
      have hclt : c < 128 := by
        have := List.mem_of_getElem? hc'
        rcases List.mem_append.mp this with hm | hm
        · rcases hb c hm with h | h | h | h | h | h <;> omega
        · rw [List.mem_singleton.mp hm]; decide
      have hilt : i < (x ++ [32]).length := by
        rcases Nat.lt_or_ge i (x ++ [32]).length with h | h
        · exact h
        · rw [List.getElem?_eq_none h] at hc'; cases hc'
      have hdrop : (x ++ [32]).drop i = c :: (x ++ [32]).drop (i + 1) := by
        rw [List.drop_eq_getElem_cons hilt]
        rw [List.getElem?_eq_getElem hilt] at hc'
        rw [Option.some.inj hc']
      rw [hdrop] at hr9
      have hsyc : sy c = sy c := rfl
      have ht1 := i1.length
      have ht2 := i2.length
      have ht3 := i3.length
      simp only [List.length_map, List.length_reverse] at ht2 ht3
      have hi20 : i ≤ 20 := by simp at hilt; omega
      dsimp only [List.cons_append, List.nil_append, List.map_cons, List.map_nil] at F9 N9 hoff
      refine hP9 ?_
      clear hP9
      dsimp only [List.cons_append, List.nil_append, List.map_cons, List.map_nil]
      refine Mine.hold2 fun Q7 E7 hQ7 _ => ?_
      (try k_fold)
      k_steps
      refine hQ7 _ _ ?_
      clear hQ7
      refine Mine.hold2 fun Q9 E9 hQ9 hE9 => ?_
      generalize hw : Stmt.While _ _ _ _ = wst
      (try k_fold)
      k_steps
      case _ =>
        rename Fr g1 _ _ _ => FE
        rename News g1 _ _ _ => NE
        rename (c = 40 ∨ c = 91 ∨ c = 123) => hop
        simp only [List.push_toArray] at NE
        rw [run, if_pos hop] at hr9
        refine hQ9 _ _ ?_
        refine InvEndN.intro (nx := [(lPile, listOf (qv ++ [_]).toArray (kp + 1)), (lWait, listOf (wv ++ [_]).toArray (kw + 1)), (lTold, listOf (tv ++ [_]).toArray (kt + 1))]) FE NE ⟨?_, told ++ [0], told.length :: ws, sy c :: pile, _, _, _, _, _, _, rfl, ?_, ?_, ?_, ?_, ?_, ?_, hr9⟩ rfl (List.forall_mem_cons.mpr ⟨.tail _ (.tail _ (.tail _ (.tail _ (.tail _ (.head _))))), List.forall_mem_cons.mpr ⟨.tail _ (.tail _ (.tail _ (.tail _ (.tail _ (.tail _ (.head _)))))), List.forall_mem_cons.mpr ⟨.tail _ (.tail _ (.tail _ (.tail _ (.tail _ (.tail _ (.tail _ (.head _))))))), fun _ hp => nomatch hp⟩⟩⟩) ?_
        · intro z hz
          simp only [List.contains_cons, List.contains_nil, Bool.or_false, Bool.or_eq_false_iff, beq_eq_false_iff_ne, ne_eq] at hz
          simp [hz.1, hz.2.1, hz.2.2]
        · exact IntsAre.append i1 (.cons _ _ .nil)
        · rw [List.reverse_cons, List.map_append]; exact IntsAre.append i2 (.cons _ _ .nil)
        · rw [List.reverse_cons]; exact IntsAre.append i3 (.cons _ _ .nil)
        · simp; omega
        · simp; omega
        · simp; omega
        · intro p hp
          simp [hp]
      case _ =>
        subst hw
        refine shut fun P9 hP9 => ?_
        rename Fr g1 _ _ _ => FE
        rename News g1 _ _ _ => NE
        rename (¬(c = 40 ∨ c = 91 ∨ c = 123)) => hop
        rw [run, if_neg hop] at hr9
        have NE2 : News g1 L1 _ ((lPile, listOf qv.toArray kp) :: (lWait, listOf wv.toArray kw) :: (lTold, listOf tv.toArray kt) :: own) := fun p hp => NE p (.tail _ (.tail _ (.tail _ (.tail _ (.tail _ hp)))))
        clear NE
        dsimp only at FE NE2
        cases hpop : popN pile 1 with
        | none => rw [hpop] at hr9; cases hr9
        | some np =>
        rw [hpop] at hr9
        refine hP9 ?_
        clear hP9
        subst hE9
        with_unfolding_all refine' ksw_while (σ := Int × Tok × List Int × List Value × Nat) (fun c => (lPile, listOf c.2.2.2.1.toArray c.2.2.2.2) :: (lWait, listOf wv.toArray kw) :: (lTold, listOf tv.toArray kt) :: own) (fun c => [(Str.ofString "number", .int c.1 c.2.1)]) (fun c => IntsAre c.2.2.2.1 c.2.2.1.reverse) [] (fun c => popN c.2.2.1 c.1 = some np ∧ c.2.2.1.length ≤ i + 1) (fun c => c.2.2.1.length) (1, _, pile, qv, kp) ?jF ?jN ?jf ?jP ?jp ?jT
        case jF => exact FE
        case jN => exact NE2
        case jf => exact i3
        case jp => exact ⟨hpop, b3⟩
        case jP =>
          intro p hp
          simp only [List.mem_cons, List.not_mem_nil, or_false] at hp
          subst hp
          rfl
        clear FE NE2 i3 ht3
        intro st6 u6 h6 tk6 hf hPP F6 N6
        dsimp only
        refine Mine.hold fun Q8 hQ8 => ?_
        refine shut fun P9 hP9 => ?_
        obtain ⟨n, nt, pl, qv, kp, rfl⟩ : ∃ n nt pl qv kp, st6 = (n, nt, pl, qv, kp) := ⟨_, _, _, _, _, rfl⟩
        obtain ⟨hP, hPl⟩ := hPP
        dsimp only [kstB] at hf hP hPl F6 N6
        cases pl with
        | nil => cases hP
        | cons t r =>
        rw [List.reverse_cons] at hf
        obtain ⟨qv, qt, rfl, hf2⟩ := ints_snoc hf
        have hqlen := hf2.length
        simp only [List.length_reverse] at hqlen
        simp only [List.length_cons] at hPl
        by_cases h256 : 256 ≤ t
        case pos =>
          have h274 : t ≤ 274 := by
            rcases Decidable.em (t ≤ 274) with h | h
            · exact h
            · simp only [popN, h256, h, if_true, if_false] at hP; cases hP
          have hP' : popN r (n * PR.getD (t - 256).toNat 1) = some np := by simpa only [popN, h256, h274, if_true] using hP
          refine hP9 ?_
          clear hP9
          (try dsimp only [kstB])
          (try k_fold)
          k_steps
          refine hQ8 _ _ ?_
          refine Mine.hold2 fun Q6 E6 hQ6 _ => ?_
          k_steps
          refine hQ6 _ _ ?_
          k_steps
        case neg =>
          have hP' : np = (n, t :: r) := by simp only [popN, h256, if_false] at hP; exact (Option.some.inj hP).symm
          subst hP'
          dsimp only at hr9
          by_cases hcl : c = 41 ∨ c = 93 ∨ c = 125
          case pos =>
            rw [if_pos hcl] at hr9
            have hs0 : ¬ sy c = 0 := by rcases hcl with rfl | rfl | rfl <;> decide
            cases ws with
            | nil => cases hr9
            | cons w0 ws =>
            dsimp only at hr9
            by_cases htw : t = sy c - 1 ∧ w0 < told.length
            case neg => rw [if_neg htw] at hr9; cases hr9
            case pos =>
            rw [if_pos htw] at hr9
            obtain ⟨ht0, hw0⟩ := htw
            subst ht0
            rw [List.reverse_cons, List.map_append, List.map_cons, List.map_nil] at i2
            rw [show Int.ofNat w0 = (w0 : Int) from rfl] at i2
            obtain ⟨wv, wt, rfl, i2b⟩ := ints_snoc i2
            have hwl := i2.length
            have hneg : ¬ (-(((List.map Int.ofNat ws.reverse ++ [(w0 : Int)]).length : Nat) : Int)) = 0 := by simp; omega
            refine hP9 ?_
            clear hP9
            (try dsimp only [kstB])
            (try k_fold)
            k_steps
            refine hQ8 _ _ ?_
            refine Mine.hold2 fun Q6 E6 hQ6 _ => ?_
            k_steps
            case _ => exact absurd rfl (by assumption)
            case _ =>
              refine hQ6 _ _ ?_
              (try k_steps)
              refine hQ9 _ _ ?_
              rename IntsAre (tv.set _ _) _ => hi9
              rename Fr g1 _ _ _ => FE
              rename News g1 _ _ _ => NE
              simp only [Int.toNat_natCast] at hi9 NE
              simp only [List.push_toArray] at NE
              simp only [List.length_cons] at b2
              refine InvEndN.intro (nx := [(lPile, listOf (qv ++ [_]).toArray (kp + 1 + 1)), (lWait, listOf wv.toArray (kw + 1)), (lTold, listOf (tv.set _ _).toArray kt)]) FE NE ⟨?_, told.set w0 n, ws, (256 + n - 1) :: r, _, _, _, _, _, _, rfl, hi9, i2b, ?_, ?_, ?_, ?_, hr9⟩ rfl (List.forall_mem_cons.mpr ⟨.head _, List.forall_mem_cons.mpr ⟨.tail _ (.head _), List.forall_mem_cons.mpr ⟨.tail _ (.tail _ (.head _)), fun _ hp => nomatch hp⟩⟩⟩) ?_
              · intro z hz
                simp only [List.contains_cons, List.contains_nil, Bool.or_false, Bool.or_eq_false_iff, beq_eq_false_iff_ne, ne_eq] at hz
                simp [hz.1, hz.2.1, hz.2.2]
              · rw [List.reverse_cons]; exact IntsAre.append hf2 (.cons _ _ .nil)
              · simp; omega
              · omega
              · simp; omega
              · intro p hp
                simp [hp]
          case neg =>
            rw [if_neg hcl] at hr9
            by_cases h32 : c = 32
            case neg => rw [if_neg h32] at hr9; cases hr9
            case pos =>
            subst h32
            rw [if_pos rfl] at hr9
            by_cases hws : ws = []
            case neg => rw [if_neg hws] at hr9; cases hr9
            case pos =>
            subst hws
            rw [if_pos rfl] at hr9
            have hres : n :: told = res := Option.some.inj hr9
            have hs0 : sy 32 = 0 := by decide
            have hneg : (-((([] : List Nat).length : Nat) : Int)) = 0 := by simp
            refine hP9 ?_
            clear hP9
            (try dsimp only [kstB])
            (try k_fold)
            k_steps
            refine hQ8 _ _ ?_
            refine Mine.hold2 fun Q6 E6 hQ6 _ => ?_
            k_steps
            refine hQ6 _ _ ?_
            (try k_steps)
            refine hQ9 _ _ ?_
            k_steps
            refine hQ0 _ _ ?_
            k_steps
            rename Fr g1 _ _ _ => kF
            rename News h₀ _ _ _ => kN
            rename IntsAre _ ([n] ++ told) => hi9
            rename News g1 _ _ _ => NI
            refine hret _ _ _ _ (by assumption) kN kF.keep ⟨_, _, _, rfl, List.Mem.head _, hres ▸ hi9, ?_⟩
            have hnew := (NI _ (List.Mem.head _)).2.2
            generalize hq : old.get? _ = q9
            cases q9 with
            | none => rfl
            | some o =>
              have h9 := hold _ _ hq
              rw [hnew] at h9
              cases h9
end Mine
end
section
open PySem PySem.W PySem.Calls PyProof.Rows
set_option maxRecDepth 100000
namespace Mine
theorem held {α : Type} {w : World} {s : Shared} {E : Value → Shared → Prop} {prog : Program} {A : Around} {x : Sem α} {Q : α → Shared → Prop} (h : ∀ Q1 : α → Shared → Prop, (∀ v s, Q v s → Q1 v s) → wpAny (model prog w) A x Q1 E s) : wpAny (model prog w) A x Q E s := h Q fun _ _ e => e
section
variable {prog : Program} {w : World} {A : Around} {E : Value → Shared → Prop} {s : Shared} {env : Env} {h₀ : Heap} {x : PySem.Str} {body : List Stmt} {Q : Flow → Shared → Prop}
/-- a loop over a text, by a word over what is left; the ledger may change its addresses -/
theorem text_inv {I : Addr} (J : List Nat → (PySem.Str → Option Value) → List (Addr × Obj) → Prop)
    (turn : ∀ c r it u m news h tk, J (c :: r) m news → (∀ p ∈ news, p.1 ≠ I) → Fr h₀ env.locals h (fun y => if y = x then some (.str ⟨#[c]⟩ u) else m y) → News h₀ env.locals h ((I, it) :: news) →
      wpAny (model prog w) A (execs body env) (UnrPost h₀ env.locals { s with heap := h, toks := tk } I it (J r) Q) E { s with heap := h, toks := tk })
    (done : ∀ m news h tk, J [] m news → Fr h₀ env.locals h m → News h₀ env.locals h news → Q .next { s with heap := h, toks := tk }) :
    ∀ (l : List Nat) m news, J l m news → (∀ p ∈ news, p.1 ≠ I) → StrRest prog w A E h₀ env x body Q s I (l.map fun c => ⟨#[c]⟩) m news
  | [], m, news, hj, _ => fun h tk F N => done m news h tk hj F N
  | c :: r, m, news, hj, ho => fun u it h tk F N => by
    refine wpAny_mono (turn c r it u m news h tk hj ho F N) (fun f s₂ p => ?_) fun _ _ e => e
    cases f with
    | ret v => exact p
    | brk => exact p
    | next =>
      obtain ⟨h', tk', m', news', e, F', N', o', j'⟩ := p
      exact ⟨h', tk', m', news', e, F', N', o', text_inv J turn done r m' news' j' o'⟩
    | cont =>
      obtain ⟨h', tk', m', news', e, F', N', o', j'⟩ := p
      exact ⟨h', tk', m', news', e, F', N', o', text_inv J turn done r m' news' j' o'⟩
theorem text_loop {l : List Nat} {t : Tok} {m₀ : PySem.Str → Option Value} {news : List (Addr × Obj)} (hh : A.handled = none) (F : Fr h₀ env.locals s.heap m₀) (N : News h₀ env.locals s.heap news)
    (J : List Nat → (PySem.Str → Option Value) → List (Addr × Obj) → Prop) (hj : J l m₀ news)
    (turn : ∀ I c r it u m news' h tk, (∀ p ∈ news, @LT.lt Nat _ p.1 I) → J (c :: r) m news' → (∀ p ∈ news', p.1 ≠ I) → Fr h₀ env.locals h (fun y => if y = x then some (.str ⟨#[c]⟩ u) else m y) → News h₀ env.locals h ((I, it) :: news') →
      wpAny (model prog w) A (execs body env) (UnrPost h₀ env.locals { s with heap := h, toks := tk } I it (J r) Q) E { s with heap := h, toks := tk })
    (done : ∀ m news' h tk, J [] m news' → Fr h₀ env.locals h m → News h₀ env.locals h news' → Q .next { s with heap := h, toks := tk }) :
    wpAny (model prog w) A (pyIter (.str (sOf l) t)) (fun it s₂ => LoopAtV prog w A h₀ env x body Q E it s₂) E s :=
  iter_strUnr hh F N rfl fun I hI => text_inv J (fun c r it u m news' h tk => turn I c r it u m news' h tk hI) done l m₀ news hj fun p hp => Nat.ne_of_lt (hI p hp)
theorem text_st {σ : Type} {l : List Nat} {t₀ : Tok} {m₀ : PySem.Str → Option Value} (Led : σ → List (Addr × Obj)) (ps : σ → List (PySem.Str × Value)) (Facts : σ → Prop) (stored : List PySem.Str) (P : List Nat → σ → Prop) (c₀ : σ)
    (hh : A.handled = none) (F : Fr h₀ env.locals s.heap m₀) (N : News h₀ env.locals s.heap (Led c₀)) (hf : Facts c₀) (hk : ∀ p ∈ ps c₀, m₀ p.1 = some p.2) (hp : P l c₀)
    (turn : ∀ I (c : σ) d r it t (u : PySem.Str → Option Value) h tk, (∀ p ∈ Led c₀, @LT.lt Nat _ p.1 I) → (∀ p ∈ Led c, p.1 ≠ I) → Facts c → P (d :: r) c →
      Fr h₀ env.locals h (fun y => if y = x then some (.str ⟨#[d]⟩ t) else kstB (fun z => if stored.contains z then u z else m₀ z) (ps c) y) → News h₀ env.locals h ((I, it) :: Led c) →
      wpAny (model prog w) A (execs body env) (UnrPost h₀ env.locals { s with heap := h, toks := tk } I it (KstS Led ps Facts x stored m₀ (fun _ c => P r c) []) Q) E { s with heap := h, toks := tk })
    (done : ∀ (c : σ) (u : PySem.Str → Option Value) h tk, Facts c → P [] c → Fr h₀ env.locals h (fun y => if y = x then u y else kstB (fun z => if stored.contains z then u z else m₀ z) (ps c) y) → News h₀ env.locals h (Led c) → Q .next { s with heap := h, toks := tk }) :
    wpAny (model prog w) A (pyIter (.str (sOf l) t₀)) (fun it s₂ => LoopAtV prog w A h₀ env x body Q E it s₂) E s := by
  refine text_loop hh F N (fun r m nx => KstS Led ps Facts x stored m₀ (fun _ c => P r c) [] m nx) ⟨c₀, rfl, hf, hk, fun _ _ _ _ => rfl, hp⟩ ?_ ?_
  · rintro I d r it t m nx h tk hI ⟨c, rfl, hf', h1, h2, hp'⟩ ho F₁ N₁
    exact turn I c d r it t m h tk hI ho hf' hp' (kst_fr h1 h2 F₁) N₁
  · rintro m nx h tk ⟨c, rfl, hf', h1, h2, hp'⟩ F₁ N₁
    exact done c m h tk hf' hp' (kst_frOut h1 h2 F₁) N₁
theorem text_end {σ : Type} {Led : σ → List (Addr × Obj)} {ps : σ → List (PySem.Str × Value)} {Facts : σ → Prop} {stored : List PySem.Str} {m₀ : PySem.Str → Option Value} {P : List Int → σ → Prop} {pre : List Int} (c : σ) {L I : Addr} {it : Obj} {m' : PySem.Str → Option Value} {all : List (Addr × Obj)} {s₁ : Shared} {h' : Heap} {tk : Nat}
    (F : Fr h₀ L h' m') (N : News h₀ L h' all) (hn : ∀ p ∈ (I, it) :: Led c, p ∈ all) (off : ∀ p ∈ Led c, p.1 ≠ I) (hf : Facts c) (hk : ∀ p ∈ ps c, m' p.1 = some p.2) (hr : ∀ z, z ≠ x → (∀ p ∈ ps c, z ≠ p.1) → stored.contains z = false → m' z = m₀ z) (hp : P pre c) :
    UnrEnd h₀ L s₁ I it (KstS Led ps Facts x stored m₀ P pre) { s₁ with heap := h', toks := tk } :=
  UnrEnd.intro F N (Led c) hn off ⟨c, rfl, hf, hk, hr, hp⟩
end
end Mine
end
section
open PySem PySem.W PySem.Calls PyProof.Rows
set_option maxRecDepth 100000
namespace Mine
section
variable {w : World} {mean : ExcName → Option Value} {mg mb : PySem.Str → Option Value} {f : Addr} {size usize : Nat} {args : List Value} {mt : List (Addr × Obj)} {Pre : Heap → Prop} {T9 : Str → Prop}
  {dp un : Nat} {gd : Option (List Code)} {cn : PySem.Str} {cs : Scope} {a : Addr} {ccd : Value} {cl : List (PySem.Str × Addr)} {outer : List Env} {A₀ : Around} {base h₀ : Heap} {L : Addr} {m : PySem.Str → Option Value} {s : Shared} {news : List (Addr × Obj)}
  {Q E : Value → Shared → Prop}
/-- a contract that answers with a text, at a call -/
theorem use_text {x : Str} (C : Tell w mean mg mb f size usize args [] Pre (fun _ _ r => ∃ tt, r = .str x tt)) (B : Below A₀ base outer h₀) (F : Fr h₀ L s.heap m) (X : (hd.heap_39 w.params).In h₀) (N : News h₀ L s.heap news)
    (T : Top hd.view_39 (looseW hd.view_39 [Str.ofString "EXACT_TOKEN_TYPES", Str.ofString "_twin_re_1", Str.ofString "_twin_re_2", Str.ofString "Whitespace"]) mean mg mb h₀) (hk : cs.kind = .function) (hd1 : dp + size < recursionLimit) (hu : un + usize < cLine) (hpre : Pre s.heap)
    (ret : ∀ r h' tk', Fr h₀ L h' m → News h₀ L h' news → (∃ tt, r = .str x tt) → Q r { s with heap := h', toks := tk' }) :
    wpAny (model PySem.Challenge.rw_rw0103_01.row.prog w) (ktrTop dp un gd cn cs L a ccd cl outer) (call (.ref f) args) Q E s :=
  use_pure C B F X N T hk hd1 hu hpre fun r _ h' tk' F' N' _ _ hp => ret r h' tk' F' (fun p hp => N' p (List.mem_append.mpr (.inr hp))) hp
theorem prime_at {A : Around} {value slice : Expr} {l : Addr} {pv : List Value} {m : Str → Option Value} {h₀ : Heap} {L : Addr} {k : Nat} {t : Tok} {prog : Program} (F : Fr h₀ L s.heap m) (hl : h₀.IsList l pv.toArray) (hi : IntsAre pv PR) (h1 : k < 19)
    (h : ∀ t, Q (.int (pn k : Int) t) s)
    (hs : subscripted slice false (.ref l) (.int (k : Int) t) = operate [.ref l, .int (k : Int) t] (getItem (.ref l) (.int (k : Int) t)) := by with_unfolding_all rfl) :
    wpAny (model prog w) A (subscriptTail value slice (.ref l) (.int (k : Int) t)) Q E s := by
  refine item_anyK (hl.at fun o e => F.keep l o e) hi (by omega) (by show (k : Int) < 19; omega) (by omega) (fun tk => ?_) hs
  have e := (pn_at k h1).1
  have e2 : PR.getD (k : Int).toNat 0 = (pn k : Int) := by
    rw [Int.toNat_natCast, List.getD_eq_getElem?_getD, e]; rfl
  rw [e2]
  exact h tk
end
theorem lines_D4 : True := by
  w_top off
  k_with_none
  k_with "call builtin:len" => (k_here; (with_reducible show wpAny _ _ (call (Value.builtin "len") [Value.ref _]) _ _ _); k_dflt (refine kst_len (by k_asm) (by k_memK) (by assumption) (by omega) ?_; k_whole))
  k_with "call builtin:list.pop" => (k_here; k_dflt (refine Mine.pop_snoc (by k_asm) (by k_asm) (by k_upd) (by first | omega | ((simp only [List.length_append, List.length_cons, List.length_nil] at *); omega)) ?_); k_whole; (intro h' F' N'; (try dsimp only [List.nil_append, List.cons_append] at N'); revert h'; intros))
  k_with "compareOp NotEq ref ref" => (k_here; (with_reducible show wpAny _ _ (compareOp CmpOp.NotEq (Value.ref _) (Value.ref _)) _ _ _); k_dflt (refine Mine.ne_strs (by is_list) (by is_list) (by first | assumption | exact StrsAre.nil) (by first | assumption | exact StrsAre.nil) (by first | assumption | exact Mine.nil_ok | exact Mine.cls_ok _) (by first | assumption | exact Mine.nil_ok | exact Mine.cls_ok _) (by ((have hcL9 := cLine_is); (simp only [units_in1, units_deeper, Around.mark_units, units_caller] at *); (try dsimp only [ktrTop] at *); omega)) ?_))
  k_with "call ref" => (k_here; (with_reducible show wpAny _ _ (call (Value.ref _) [Value.int _ _, Value.ref _]) _ _ _); k_dflt (refine Mine.use_text (by ((rename ∀ _ : Tok, Tell _ _ _ _ _ _ _ _ _ _ _ => hTell); exact hTell _)) (by k_asm) (by k_asm) (by k_asm) (by k_asm) (by k_asm) (by first | rfl | assumption) (by omega) (by omega) (by is_list) ?_); (intro r9 h9 tk9 F9 N9 hp9; obtain ⟨tt9, e9⟩ := hp9; subst e9; (try dsimp only); revert h9 tk9 tt9; intros))
  k_with "subscriptTail" => (k_here; (with_reducible show wpAny _ _ (subscriptTail _ _ (Value.ref _) (Value.int _ _)) _ _ _); k_dflt (refine Mine.prime_at (by k_asm) (by k_asm) (by exact And.right (a := True) (by assumption)) (by assumption) ?_); intro _)
  trivial
set_option maxHeartbeats 40000000 in
theorem written_step (w : World) (mean mg mb) (lp : Addr) (pv : List Value) (hi : IntsAre pv PR) (n : Nat) (h1 : 1 ≤ n) (h67 : n < 68) (IH : ∀ j, 1 ≤ j → j < n → ∀ jt, Tell w mean mg mb 157 (j + 1) (10 * j + 100) [.int (j : Int) jt, .ref lp] [] (fun g => g.IsList lp pv.toArray) (fun _ _ r => ∃ tt, r = .str (sOf (W j).txt) tt)) (nt : Tok) :
    Tell w mean mg mb 157 (n + 1) (10 * n + 100) [.int (n : Int) nt, .ref lp] [] (fun g => g.IsList lp pv.toArray) (fun _ _ r => ∃ tt, r = .str (sOf (W n).txt) tt) := by
  unfold Tell
  k_fill
  intro dp un gd cn cs a ccd cl outer A₀ base h₀ L m s Q E B F X N T hk hd hu hpre hret
  k_dflt (refine' enter ?k1 ?k2 ?k3 ?k4 ?k5 ?kK ?k6 ?k7 ?k8 ?k9 ?kB ?_ ?c2 ?c3 ?c4 ?c5; (case kK => assumption); (case k1 => k_asm); (case k2 => k_asm); (case k3 => k_asm); (case k4 => k_asm); (case k5 => k_asm); (case k6 => k_is); (case k7 => k_is); (case k8 => omega); (case k9 => exact BindsTo.of_eq rfl); (case c5 => decide); (case kB => exact locs rfl); (case c2 => exact rfl); (case c3 => exact rfl); (case c4 => exact rfl); k_whole)
  intro g1 L1 h1' eg F1 N1 l1 B1 X1 T1
  replace F1 := fr2 F1
  rw [← eg] at hret hpre
  simp only [List.map_nil, hideAll] at eg
  clear l1
  have hI := And.intro trivial hi
  clear hi
  generalize s.toks + _ = tk1
  refine Mine.hold3 (by passes_own) fun Q0 E0 hQ0 hE0 => ?_
  generalize hr : (Stmt.For _ _ _ _ _ :: _ : List Stmt) = rest
  (try k_fold)
  k_steps
  subst hr
  refine wpAny_execs_cons ?_
  rename_i F3 N3
  dsimp only at F3 ⊢
  (with_unfolding_all refine' For_invVF F3 ?k1 ?k2 ?_; (case k1 => exact rfl); (case k2 => exact rfl))
  refine hold fun Q1 hQ1 => ?_
  k_steps
  rename IsRange _ _ _ _ _ _ _ _ => hR
  rename Fr g1 L1 _ _ => F4
  rename News g1 L1 _ _ => N4
  refine hQ1 _ _ ?_
  with_unfolding_all refine' kst_range (n := 19) (σ := List Nat × Tok × Nat × Tok) (fun c => []) (fun c => [(Str.ofString "text", .str (sOf c.1) c.2.1), (Str.ofString "number", .int (c.2.2.1 : Int) c.2.2.2)]) (fun _ => True) [] (fun pre c => (1 ≤ c.2.2.1 ∧ c.2.2.1 < 68 ∧ c.2.2.1 ≤ n) ∧ (∀ j, j < pre.length → ¬ c.2.2.1 % pn j = 0) ∧ c.1 ++ (W c.2.2.1).txt = (W n).txt) ([], tk1, n, nt) ?kh hR ?ksm ?kn ?kF ?kN ?kf ?kP ?kp ?kT ?kD
  case kh => rfl
  case ksm => decide
  case kn => decide
  case kF => exact F4
  case kN => exact N4
  case kf => trivial
  case kp => exact ⟨⟨h1, h67, Nat.le_refl _⟩, fun j hj => absurd hj (Nat.not_lt_zero _), rfl⟩
  case kP =>
    intro p hp
    simp only [List.mem_cons, List.not_mem_nil, or_false] at hp
    rcases hp with rfl | rfl <;> rfl
  case kT =>
    intro c6 pre k kt u h3 tk4 own ek hkl hoff hf hP F5 N5
    clear F4 N4
    refine shut fun P9 hP9 => ?_
    obtain ⟨t, tk3, m3, mt3, rfl⟩ : ∃ t tk3 m3 mt3, c6 = (t, tk3, m3, mt3) := ⟨_, _, _, _, rfl⟩
    dsimp only [List.cons_append, List.nil_append, List.map_cons, List.map_nil, kstB] at hf hP F5 N5 hoff
    refine hP9 ?_
    clear hP9 P9
    dsimp only [List.cons_append, List.nil_append, List.map_cons, List.map_nil, kstB]
    obtain rfl : k = (pre.length : Int) := by omega
    generalize hpl : pre.length = kk at *
    have kM : KstMark := kstMark
    refine wpAny_execs_cons ?_
    with_unfolding_all refine' ksw_while (σ := List Nat × Tok × Nat × Tok) (fun c => own) (fun c => [(Str.ofString "text", .str (sOf c.1) c.2.1), (Str.ofString "number", .int (c.2.2.1 : Int) c.2.2.2)]) (fun _ => True) [] (fun c => (1 ≤ c.2.2.1 ∧ c.2.2.1 < 68 ∧ c.2.2.1 ≤ n) ∧ (∀ j, j < kk → ¬ c.2.2.1 % pn j = 0) ∧ c.1 ++ (W c.2.2.1).txt = (W n).txt) (fun c => c.2.2.1) (t, tk3, m3, mt3) ?jF ?jN ?jf ?jP ?jp ?jT
    case jF => exact F5
    case jN => exact N5
    case jf => trivial
    case jp => exact hP
    case jP =>
      intro p hp
      simp only [List.mem_cons, List.not_mem_nil, or_false] at hp
      rcases hp with rfl | rfl <;> rfl
    clear F5 N5 hf hP
    intro c6 u6 h6 tk6 hf hP F6 N6
    refine shut fun P9 hP9 => ?_
    obtain ⟨t, tk3, m3, mt3, rfl⟩ : ∃ t tk3 m3 mt3, c6 = (t, tk3, m3, mt3) := ⟨_, _, _, _, rfl⟩
    dsimp only [kstB] at hf hP F6 N6
    obtain ⟨⟨p1, p2, p3⟩, p4, p5⟩ := hP
    refine hP9 ?_
    clear hP9 P9
    dsimp only [kstB]
    have hsl := sOf_len t
    have hpp := pn_at kk hkl
    have hmod : Int.fmod (m3 : Int) (pn kk : Int) = ((m3 % pn kk : Nat) : Int) := by
      rw [Int.fmod_eq_emod_of_nonneg _ (by omega)]; rfl
    have hdiv : Int.fdiv (m3 : Int) (pn kk : Int) = ((m3 / pn kk : Nat) : Int) := by
      rw [Int.fdiv_eq_ediv_of_nonneg _ (by omega)]; rfl
    have htl : t.length ≤ 20 := by
      have e := congrArg List.length p5
      rw [Fo.len_txt, List.length_append] at e
      have := (W_all n h67 h1).2.2.2
      omega
    by_cases hd0 : m3 % pn kk = 0
    case pos =>
      have hdv := W_div m3 p2 p1 kk hkl hd0
      have IHk : ∀ jt : Tok, Tell w mean mg mb 157 (kk + 1 + 1) (10 * (kk + 1) + 100) [.int ((kk : Int) + 1) jt, .ref lp] [] (fun g => g.IsList lp pv.toArray) (fun _ _ r => ∃ tt, r = .str (sOf (W (kk + 1)).txt) tt) := fun jt => IH (kk + 1) (by omega) (by omega) jt
      have hslW := sOf_len (W (kk + 1)).txt
      have hwz : (W (kk + 1)).txt.length ≤ 20 := by
        rw [Fo.len_txt]
        have := (W_all (kk + 1) (by omega) (by omega)).2.2.2
        omega
      (try k_fold)
      k_steps
      rename Fr g1 _ _ _ => F8
      rename News g1 _ _ _ => N8
      rw [hdiv] at F8
      have et : sOf t ++ Str.ofString "[" ++ sOf (W (kk + 1)).txt ++ Str.ofString "]" = sOf (t ++ 91 :: ((W (kk + 1)).txt ++ [93])) := by
        rw [show Str.ofString "[" = sOf [91] from rfl, show Str.ofString "]" = sOf [93] from rfl, sOf_app, sOf_app, sOf_app]
        simp
      rw [et] at F8
      refine ksw_end (t ++ 91 :: ((W (kk + 1)).txt ++ [93]), _, m3 / pn kk, _) F8 N8 (fun _ h => h) trivial (each_cons rfl (each_cons rfl each_nil)) (by ksw_same) ⟨⟨hdv.1, Nat.lt_trans hdv.2.1 p2, Nat.le_trans (Nat.le_of_lt hdv.2.1) p3⟩, W_keep p4 hd0, ?_⟩ hdv.2.1
      rw [← p5, W_step p2 p1 hkl p4 hd0]
      simp
    case neg =>
      have hne : ¬ Int.fmod (m3 : Int) (pn kk : Int) = 0 := by rw [hmod]; omega
      (try k_fold)
      k_steps
      case _ => exact absurd (by assumption) hne
      rename Fr g1 _ _ _ => F8
      rename News g1 _ _ _ => N8
      have hp9 : (1 ≤ m3 ∧ m3 < 68 ∧ m3 ≤ n) ∧ (∀ j, j < (pre ++ [(kk : Int)]).length → ¬ m3 % pn j = 0) ∧ t ++ (W m3).txt = (W n).txt := by
        refine ⟨⟨p1, p2, p3⟩, ?_, p5⟩
        intro j hj
        rw [List.length_append, hpl, List.length_singleton] at hj
        rcases Nat.lt_or_ge j kk with h | h
        · exact p4 j h
        · obtain rfl : j = kk := by omega
          exact hd0
      exact kst_end (t, _, m3, _) F8 N8 (by intro p h; cases h) (fun _ h => h) rfl trivial (each_cons rfl (each_cons rfl each_nil)) (by kst_same) (by exact hp9)
  case kD =>
    intro c6 u h4 tk4 hf hP F5 N5
    refine shut fun P9 hP9 => ?_
    obtain ⟨t, tk3, m3, mt3, rfl⟩ : ∃ t tk3 m3 mt3, c6 = (t, tk3, m3, mt3) := ⟨_, _, _, _, rfl⟩
    obtain ⟨⟨p1, p2, p3⟩, p4, p5⟩ := hP
    rw [rangeKs_length] at p4
    have e1 := W_end _ p2 p1 p4
    refine hP9 ?_
    clear hP9 P9
    dsimp only at e1 p5 F5 N5 ⊢
    subst e1
    rw [W_one, List.append_nil] at p5
    subst p5
    dsimp only [kstB] at F5 N5
    have kM : KstMark := kstMark
    k_steps
    refine hQ0 _ _ ?_
    k_steps
    rename Fr g1 _ _ _ => FE
    rename Fr h₀ _ _ _ => kF
    rename News h₀ _ _ _ => kN
    exact hret _ _ _ _ kF kN FE.keep ⟨_, rfl⟩
theorem written_tell (w : World) (mean mg mb) (lp : Addr) (pv : List Value) (hi : IntsAre pv PR) : ∀ n, 1 ≤ n → n < 68 → ∀ nt,
    Tell w mean mg mb 157 (n + 1) (10 * n + 100) [.int (n : Int) nt, .ref lp] [] (fun g => g.IsList lp pv.toArray) (fun _ _ r => ∃ tt, r = .str (sOf (W n).txt) tt) := by
  intro n
  induction n using Nat.strongRecOn with
  | ind n ih => exact fun h1 h2 nt => written_step w mean mg mb lp pv hi n h1 h2 (fun j a b jt => ih j b a (by omega) jt) nt
end Mine
end
section
open PySem PySem.W PySem.Calls PyProof.Rows
set_option maxRecDepth 100000
namespace Mine
theorem lines_D5 : True := by
  w_top off
  k_with_none
  trivial
section
variable {prog : Program} {w : World} {A A₀ : Around} {s : Shared} {K : Frag} {base h₀ : Heap} {outer : List Env} {env : Env} {L C : Addr} {m mg mb : PySem.Str → Option Value} {news : List (Addr × Obj)} {p : Program} {loose : List PySem.Str} {mean : ExcName → Option Value}
theorem enterC {R : Result → Shared → Prop} {name qual : PySem.Str} {params : Arguments} {body : List Stmt} {scope : Scope} {dV kV doc pm cdv ct oc : Value} {an od : Option Addr} {osl : Array (Option Value)} {f : Addr} {args : Args} {binds : List (PySem.Str × Value)}
    (B : Below A₀ base outer h₀) (F : Fr h₀ L s.heap m) (X₀ : K.In h₀) (N : News h₀ L s.heap news) (T : Top p loose mean mg mb h₀) (hA : A.frames = some (env :: outer)) (hf : env.frame = some L) (hke : env.scope.kind = .function)
    (ho : K.lookup f = some ⟨oc, od, .func (fnOf name qual params body scope dV kV doc pm an cdv ct), osl⟩) (hcd : codeIn K cdv qual = true) (hroom : A.depth < recursionLimit)
    (hbind : BindsTo s (fnOf name qual params body scope dV kV doc pm an cdv ct) args binds) (hloc : ∀ y ∈ binds, scope.names.lookup y.1 = some .local)
    (h : ∀ g L' h₁, g = hideAll s.heap (news.map (·.1)) → Fr g L' h₁ (fun y => binds.reverse.lookup y) → News g L' h₁ news → (∀ p ∈ news, p.1 < L') → Below A base (env :: outer) g → K.In g → Top p loose mean mg mb g →
      wpAny (model prog w) (A.deeper (envOf qual scope L' f cdv)) (execs body (envOf qual scope L' f cdv))
        (fun fl s' => LeaveK h₀ L m g R (match fl with | .ret v => v | _ => .none) s')
        (fun e s' => wpAny (model prog w) (A.deeper (envOf qual scope L' f cdv)) (leaving (envOf qual scope L' f cdv) e) (fun _ s'' => R (.error e) s'') (fun e' s'' => R (.error e') s'') s')
        { s with heap := h₁, toks := s.toks + binds.length })
    (hco : scope.isCoroutine = false) (hgen : scope.isGenerator = false) (hk : scope.kind = .function)
    (hcell : ∀ x ∈ scope.names, x.2 ≠ .cell) : codeAny (model prog w) A (.call (.ref f) args) R s := by
  obtain ⟨FG, BG, st, lv⟩ := groundX (A := A) (env := env) (R := R) B F N hA hf hke
  refine codeAny_call_def hroom (X₀.keeps F.keep f _ ho) rfl (T.nolimit.keeps F.keep) (codeRec_of (X₀.keeps F.keep) hcd) rfl hbind hcell hloc (fun h₁ hns hk₁ => ?_) hco hgen hk
  exact wpAny_mono (h _ s.heap.objs.size h₁ rfl ⟨hns, fun b o e => hk₁ b o (of_hideAll _ e), Nat.le_of_eq (hideAll_size _ _)⟩
    (fun p hp => ⟨hk₁ _ _ (N p hp).1, Nat.ne_of_lt (Heap.lt_size (N p hp).1), hideAll_none _ (List.mem_map_of_mem hp)⟩) (fun p hp => Heap.lt_size (N p hp).1) BG (X₀.keeps st) (T.keeps st))
    (fun fl s' hl => lv _ _ hl) fun _ _ y => y
theorem call_clsS {pos : List Value} {kw : List (PySem.Str × Value)} {fI : Addr} {Q E : Value → Shared → Prop} (F : Fr h₀ L s.heap m) (X₀ : K.In h₀) (N : News h₀ L s.heap news) (hm : makesIn K C = true) (hi : findIn K (.ref C) "__init__" = some (some (.ref fI))) (hf : isFn K (.ref fI) = true)
    (h : ∀ x dx h', Fr h₀ L h' m → News h₀ L h' ((x, instObj C dx) :: (dx, dictOf [] 0) :: news) → (∀ p ∈ news, p.1 < dx) → dx < x → s.heap.StaysIn h' → s.heap.get? x = none → s.heap.get? dx = none →
      codeAny (model prog w) (A.under (.builtin "type.__call__" ⟨.ref C :: pos, kw⟩)) (.call (.ref fI) ⟨.ref x :: pos, kw⟩) (InitBack x fun r s' => match r with | .ok (.ret v) => Q v s' | .ok _ => False | .error e => E e s') { s with heap := h' }) :
    wpAny (model prog w) A (call (.ref C) pos kw) Q E s := by
  refine wpAny_call ?_
  obtain ⟨hh, g, d, t, os⟩ := s
  have X := X₀.keeps F.keep
  refine make_core (makes_of X hm) (looks_findIn X hi) (fun self => bind_fn X self (beq_iff_eq.mp hf)) (.inl rfl) (h _ hh.objs.size _ ((F.push _).push _) ?_ (fun p hp => Heap.lt_size (N p hp).1) (Nat.lt_succ_self _) (fun b o e => Heap.get?_push_of_some _ (Heap.get?_push_of_some _ e)) ?_ ?_)
  · have := (N.push F emptyDict).push (F.push _) (instObj C hh.objs.size)
    rwa [Heap.size_push] at this
  · cases q : hh.get? (hh.objs.size + 1) with
    | none => rfl
    | some o => exact (Nat.not_lt.mpr (Nat.le_succ hh.objs.size) (Heap.lt_size q)).elim
  · cases q : hh.get? hh.objs.size with
    | none => rfl
    | some o => exact (Nat.lt_irrefl _ (Heap.lt_size q)).elim
end
theorem one_ne {d k : Nat} (h : d ≠ k) : ((⟨#[d]⟩ : Str) == sOf [k]) = false := by
  rw [beq_eq_false_iff_ne]
  intro e
  exact h (by simpa [sOf] using congrArg (fun s : Str => s.cps) e)
theorem news_ne {g h : Heap} {L a b : Addr} {o o' : Obj} {news : List (Addr × Obj)} (N : News g L h news) (h1 : (a, o) ∈ news) (h2 : (b, o') ∈ news) (hc : o.cls ≠ o'.cls) : @Ne Nat a b := by
  intro e
  have e' : a = b := e
  subst e'
  have := (N _ h1).1.symm.trans (N _ h2).1
  exact hc (congrArg Obj.cls (Option.some.inj this))
theorem held_next {w : World} {s : Shared} {E : Value → Shared → Prop} {prog : Program} {A : Around} {x : Sem Flow} {Q : Flow → Shared → Prop} (Pred : Shared → Prop) (fin : ∀ s', Pred s' → Q .next s') (h : ∀ Q1 : Flow → Shared → Prop, (∀ s', Pred s' → Q1 .next s') → wpAny (model prog w) A x Q1 E s) : wpAny (model prog w) A x Q E s := h Q fin
/-- a Whitespace of a text, by its cells -/
def WsC (has : Addr → Obj → Prop) (X : Addr) (x : List Nat) : Prop :=
  ∃ (dx : Addr) (es : List DictEntry) (k : Nat) (nx ct : Addr) (cv : List Value) (tr tn tb : Tok) (n nt b : Nat) (cnt : List Int), scan x 0 0 0 [] = (n, nt, b, cnt) ∧ has X (instObj 134 dx) ∧ has dx (dictOf es k) ∧
    getL (Str.ofString "raw") es = some (some (.str (sOf x) tr)) ∧ getL (Str.ofString "n") es = some (some (.int (n : Int) tn)) ∧ getL (Str.ofString "norm") es = some (some (.ref nx)) ∧ getL (Str.ofString "equal") es = some none ∧
    has nx { cls := .type "tuple", data := .seq #[.ref ct, .int (b : Int) tb] } ∧ has ct { cls := .type "tuple", data := .seq cv.toArray } ∧ IntsAre cv cnt
theorem flat1 (k : Nat) : (List.replicate k ([0] : List Int)).flatten = List.replicate k 0 := by
  induction k with
  | zero => rfl
  | succ k ih => rw [List.replicate_succ, List.flatten_cons, ih]; rfl
structure WS where
  n : Nat
  nt : Nat
  b : Nat
  tn : Tok
  tt : Tok
  tb : Tok
  cnt : List Int
  cv : List Value
  ca : Addr
  kc : Nat
set_option maxHeartbeats 40000000 in
theorem make_tell (w : World) (mean mg mb) (x : List Nat) (xt : Tok) (hl : x.length ≤ 1000) :
    Tell w mean mg mb 134 2 200 [.str (sOf x) xt] [] (fun _ => True) (fun _ news r => ∃ X, r = .ref X ∧ WsC (fun a o => (a, o) ∈ news) X x) := by
  unfold Tell
  k_fill
  intro dp un gd cn cs a ccd cl outer A₀ base h₀ L m s Q E B F X N T hk hd hu hpre hret
  (k_dflt (refine' call_clsS ?k1 ?k2 ?k3 ?k4 ?k5 ?k6 ?_; (case k1 => k_asm); (case k2 => k_asm); (case k3 => k_asm); (case k4 => k_is); (case k5 => k_is); (case k6 => k_is); k_whole))
  intro xi dx hi Fi Ni _ hdx0 st0 nx ndx
  have hdx : @LT.lt Nat _ dx xi := hdx0
  clear hdx0
  k_dflt (refine' enterC ?k1 ?k2 ?k3 ?k4 ?k5 ?kA ?kF ?kK ?k6 ?k7 ?k8 ?k9 ?kB ?_ ?c2 ?c3 ?c4 ?c5; (case kA => exact rfl); (case kF => exact rfl); (case kK => assumption); (case k1 => k_asm); (case k2 => k_asm); (case k3 => k_asm); (case k4 => k_asm); (case k5 => k_asm); (case k6 => k_is); (case k7 => k_is); (case k8 => show dp + 1 < recursionLimit; omega); (case k9 => exact BindsTo.of_eq rfl); (case c5 => decide); (case kB => exact locs rfl); (case c2 => exact rfl); (case c3 => exact rfl); (case c4 => exact rfl); k_whole)
  intro g1 L1 h1 eg F1 N1 l1 B1 X1 T1
  replace F1 := fr2 F1
  dsimp only at F1 hret eg ⊢
  simp only [List.map_nil, hideAll] at hret
  clear l1 hpre
  generalize s.toks + _ = tk1
  have kM : KstMark := kstMark
  refine Mine.hold3 (by passes_own) fun Q0 E0 hQ0 hE0 => ?_
  generalize hr : (Stmt.For _ _ _ _ _ :: _ : List Stmt) = rest
  (try k_fold)
  k_steps
  subst hr
  refine wpAny_execs_cons ?_
  rename (_ ∧ @LT.lt Nat _ xi _ ∧ _) => hxl
  replace hxl := hxl.2.1
  rename Fr g1 L1 _ _ => F3
  rename News g1 L1 _ _ => N3
  have N5 : News g1 L1 _ [(_, listOf #[] 0), (xi, instObj 134 dx), (dx, dictOf [⟨PyData.keyHash w.params (Str.ofString "raw"), .str (Str.ofString "raw") (tk1 + 1), .str (sOf x) xt⟩] 1)] := fun p hp => N3 p (by
    rcases List.mem_cons.mp hp with rfl | hp
    · exact .head _
    · exact .tail _ (.tail _ hp))
  clear N3
  have l1b := hxl
  refine held_next (fun s' => ∃ (c : WS) (u : Str → Option Value) (h : Heap) (tk : Nat) (v1 v2 v3 v4 : Option Value), s' = { s with heap := h, toks := tk } ∧ IntsAre c.cv c.cnt ∧ scan x 0 0 0 [] = (c.n, c.nt, c.b, c.cnt) ∧ c.n ≤ x.length ∧ c.b ≤ c.n ∧ c.nt ≤ c.n ∧ c.cnt.length ≤ c.n ∧ @LT.lt Nat _ xi c.ca ∧
    Fr g1 L1 h (fun y => if y = Str.ofString "ch" then u y else if y = Str.ofString "nt" then some (.int (c.nt : Int) c.tt) else if y = Str.ofString "n" then some (.int (c.n : Int) c.tn) else if y = Str.ofString "b" then some (.int (c.b : Int) c.tb) else if y = Str.ofString "count" then some (.ref c.ca) else if y = Str.ofString "nt" then v1 else if y = Str.ofString "n" then v2 else if y = Str.ofString "b" then v3 else if y = Str.ofString "count" then v4 else if y = Str.ofString "S" then some (.str (Str.ofString " ") 586) else if y = Str.ofString "T" then some (.str (Str.ofString "\t") 587) else if y = Str.ofString "ws" then some (.str (sOf x) xt) else if y = Str.ofString "self" then some (.ref xi) else none) ∧
    News g1 L1 h [(c.ca, listOf c.cv.toArray c.kc), (xi, instObj 134 dx), (dx, dictOf [⟨PyData.keyHash w.params (Str.ofString "raw"), .str (Str.ofString "raw") (tk1 + 1), .str (sOf x) xt⟩] 1)]) ?fin ?loop
  case fin =>
    intro s' hfin
    clear F3 N5 l1b
    refine shut fun P9 hP9 => ?_
    obtain ⟨⟨n, nt, b, tn, tt, tb, cnt, cv, ca, kc⟩, u, h5, tk5, v1, v2, v3, v4, rfl, hf, p1, p2, p3, p4, p5, p6, F6, N6⟩ := hfin
    dsimp only at hf p1 p2 p3 p4 p5 p6 F6 N6
    refine hP9 ?_
    clear hP9
    dsimp only
    have hcl := hf.length
    have hp7 : @LT.lt Nat _ dx ca := Nat.lt_trans hdx p6
    k_steps
    rename News g1 L1 _ _ => N7
    have hD := news_ne N7 (.tail _ (.head _)) (.tail _ (.tail _ (.tail _ (.tail _ (.head _))))) (by intro e; injection e with e; exact absurd e (by decide))
    k_steps
    refine hQ0 _ _ ?_
    k_steps
    rename Fr g1 _ _ _ => FE
    rename Fr h₀ _ _ _ => kF
    rename News h₀ _ _ _ => kN
    refine hret _ _ _ _ kF kN ?_ ⟨xi, rfl, dx, _, _, _, _, cv, xt, tn, tb, n, nt, b, cnt, p1, .tail _ (.tail _ (.tail _ (.head _))), .tail _ (.tail _ (.tail _ (.tail _ (.head _)))), ?_, ?_, ?_, ?_, .head _, .tail _ (.head _), hf⟩
    · intro a o e
      refine FE.keep a o ?_
      rw [eg]
      refine hideAll_get _ (st0 a o e) ?_
      intro hq
      simp only [List.map_cons, List.map_nil, List.mem_cons, List.not_mem_nil, or_false] at hq
      rcases hq with rfl | rfl
      · rw [nx] at e; cases e
      · rw [ndx] at e; cases e
    · rfl
    · rfl
    · rfl
    · rfl
  case loop =>
  intro Q2 hQ2
  (with_unfolding_all refine' For_invVF F3 ?k1 ?k2 ?_; (case k1 => exact rfl); (case k2 => exact rfl))
  refine held fun Q1 hQ1 => ?_
  k_steps
  refine hQ1 _ _ ?_
  rename Fr g1 L1 _ _ => F4
  generalize hes : ([_] : List DictEntry) = es0 at N5
  with_unfolding_all refine' text_st (σ := WS) (fun c => [(c.ca, listOf c.cv.toArray c.kc), (xi, instObj 134 dx), (dx, dictOf es0 1)]) (fun c => [(Str.ofString "nt", .int (c.nt : Int) c.tt), (Str.ofString "n", .int (c.n : Int) c.tn), (Str.ofString "b", .int (c.b : Int) c.tb), (Str.ofString "count", .ref c.ca)]) (fun c => IntsAre c.cv c.cnt) [] (fun r c => scan r c.n c.nt c.b c.cnt = scan x 0 0 0 [] ∧ c.n + r.length ≤ x.length ∧ c.b ≤ c.n ∧ c.nt ≤ c.n ∧ c.cnt.length ≤ c.n ∧ @LT.lt Nat _ xi c.ca) ⟨0, 0, 0, _, _, _, [], [], _, 0⟩ ?kh ?kF ?kN ?kf ?kP ?kp ?kT ?kD
  case kh => rfl
  case kF => exact F4
  case kN => exact N5
  case kf => exact .nil
  case kp => exact ⟨rfl, by simp, Nat.le_refl _, Nat.le_refl _, Nat.le_refl _, l1b⟩
  case kP =>
    intro p hp
    simp only [List.mem_cons, List.not_mem_nil, or_false] at hp
    rcases hp with rfl | rfl | rfl | rfl <;> rfl
  case kT =>
    intro I c6 d r it ut u h5 tk5 hI hca hf hp6 F6 N6
    clear F4 N5
    refine shut fun P9 hP9 => ?_
    obtain ⟨n, nt, b, tn, tt, tb, cnt, cv, ca, kc, rfl⟩ : ∃ n nt b tn tt tb cnt cv ca kc, c6 = (⟨n, nt, b, tn, tt, tb, cnt, cv, ca, kc⟩ : WS) := ⟨_, _, _, _, _, _, _, _, _, _, rfl⟩
    obtain ⟨p1, p2, p3, p4, p5, p6⟩ := hp6
    dsimp only [kstB] at hI hca hf p1 p2 p3 p4 p5 p6 F6 N6
    have hI1 : @LT.lt Nat _ xi I := hI _ (.tail _ (.head _))
    have hI2 : @LT.lt Nat _ dx I := hI _ (.tail _ (.tail _ (.head _)))
    have hca1 : @Ne Nat ca I := hca _ (.head _)
    have hcl := hf.length
    simp only [List.length_cons] at p2
    by_cases h32 : d = 32
    case pos =>
      subst h32
      rw [scan, if_pos rfl] at p1
      refine hP9 ?_
      clear hP9
      (try dsimp only [kstB])
      refine Mine.hold2 fun Q8 E8 hQ8 _ => ?_
      (try k_fold)
      k_steps
      refine hQ8 _ _ ?_
      rename Fr g1 _ _ _ => F8
      rename News g1 _ _ _ => N8
      have hp9 : scan r (n + 1) nt (b + 1) cnt = scan x 0 0 0 [] ∧ n + 1 + r.length ≤ x.length ∧ b + 1 ≤ n + 1 ∧ nt ≤ n + 1 ∧ cnt.length ≤ n + 1 ∧ @LT.lt Nat _ xi ca := ⟨p1, by omega, by omega, by omega, by omega, p6⟩
      exact text_end ⟨n + 1, nt, b + 1, _, _, _, cnt, cv, ca, kc⟩ F8 N8 (by exact fun _ h => h) (each_cons hca1 (each_cons (Nat.ne_of_lt hI1) (each_cons (Nat.ne_of_lt hI2) each_nil))) (by exact hf) (each_cons rfl (each_cons rfl (each_cons rfl (each_cons rfl each_nil)))) (by kst_same) (by exact hp9)
    case neg =>
    by_cases h9 : d = 9
    case pos =>
      subst h9
      rw [scan, if_neg h32, if_pos rfl] at p1
      refine hP9 ?_
      clear hP9
      (try dsimp only [kstB])
      refine Mine.hold2 fun Q8 E8 hQ8 _ => ?_
      (try k_fold)
      k_steps
      all_goals refine hQ8 _ _ ?_
      case _ =>
        rename Fr g1 _ _ _ => F8
        rename News g1 _ _ _ => N8
        rename IntsAre (List.set _ _ _) _ => hi9
        rename_i D9 w9 _ _ l9 _ _ _ _ _ _
        have hb : cnt.length ≤ b := by omega
        have hn9 : ((b : Int) - (cnt.length : Int) + 1).toNat = b - cnt.length + 1 := by omega
        have hbump : bump cnt b = (cnt ++ List.replicate (b - cnt.length + 1) 0).set b ((cnt ++ List.replicate (b - cnt.length + 1) 0).getD b 0 + 1) := by
          unfold bump; rw [if_pos hb]
        have hbl : (bump cnt b).length ≤ n + 1 := by
          rw [hbump, List.length_set, List.length_append, List.length_replicate]; omega
        simp only [hn9, Int.toNat_natCast, flat1] at hi9 N8
        rw [← hbump] at hi9
        have hp9 : scan r (n + 1) (nt + 1) 0 (bump cnt b) = scan x 0 0 0 [] ∧ n + 1 + r.length ≤ x.length ∧ 0 ≤ n + 1 ∧ nt + 1 ≤ n + 1 ∧ (bump cnt b).length ≤ n + 1 ∧ @LT.lt Nat _ xi D9 := ⟨p1, by omega, by omega, by omega, hbl, l9.2.2.2.2.1⟩
        exact text_end ⟨n + 1, nt + 1, 0, _, _, _, bump cnt b, _, D9, 0⟩ F8 N8 (by ((try dsimp only); (repeat (first | with_reducible exact fun _ h => h | with_reducible exact sub_nil | (with_reducible refine sub_cons ?_ ?_; (focus first | ((repeat (first | with_reducible exact List.mem_cons_self | with_reducible refine List.mem_cons_of_mem _ ?_)); done) | ((repeat (first | with_unfolding_all exact List.Mem.head _ | refine List.Mem.tail _ ?_)); done))) | with_reducible refine sub_skip ?_)))) (each_cons (Ne.symm (Nat.ne_of_lt l9.2.2.1)) (each_cons (Nat.ne_of_lt hI1) (each_cons (Nat.ne_of_lt hI2) each_nil))) hi9 (each_cons rfl (each_cons rfl (each_cons rfl (each_cons rfl each_nil)))) (by kst_same) (by exact hp9)
      case _ =>
        rename Fr g1 _ _ _ => F8
        rename News g1 _ _ _ => N8
        rename IntsAre (List.set _ _ _) _ => hi9
        have hb : ¬ cnt.length ≤ b := by omega
        have hbump : bump cnt b = cnt.set b (cnt.getD b 0 + 1) := by
          unfold bump; rw [if_neg hb]
        have hbl : (bump cnt b).length ≤ n + 1 := by
          rw [hbump, List.length_set]; omega
        simp only [Int.toNat_natCast] at hi9 N8
        rw [← hbump] at hi9
        have hp9 : scan r (n + 1) (nt + 1) 0 (bump cnt b) = scan x 0 0 0 [] ∧ n + 1 + r.length ≤ x.length ∧ 0 ≤ n + 1 ∧ nt + 1 ≤ n + 1 ∧ (bump cnt b).length ≤ n + 1 ∧ @LT.lt Nat _ xi ca := ⟨p1, by omega, by omega, by omega, hbl, p6⟩
        exact text_end ⟨n + 1, nt + 1, 0, _, _, _, bump cnt b, _, ca, kc⟩ F8 N8 (by exact fun _ h => h) (each_cons hca1 (each_cons (Nat.ne_of_lt hI1) (each_cons (Nat.ne_of_lt hI2) each_nil))) hi9 (each_cons rfl (each_cons rfl (each_cons rfl (each_cons rfl each_nil)))) (by kst_same) (by exact hp9)
    case neg =>
      rw [scan, if_neg h32, if_neg h9] at p1
      have hs1 : ((⟨#[d]⟩ : Str) == Str.ofString " ") = false := (show Str.ofString " " = sOf [32] from rfl) ▸ one_ne h32
      have hs2 : ((⟨#[d]⟩ : Str) == Str.ofString "\t") = false := (show Str.ofString "\t" = sOf [9] from rfl) ▸ one_ne h9
      refine hP9 ?_
      clear hP9
      (try dsimp only [kstB])
      refine Mine.hold2 fun Q8 E8 hQ8 _ => ?_
      (try k_fold)
      k_steps
      all_goals try (exfalso; simp_all; done)
      refine hQ8 _ _ ?_
      clear hQ8
      k_steps
      rename Fr g1 _ _ _ => F8
      rename News g1 _ _ _ => N8
      refine hQ2 _ ⟨⟨n, nt, b, tn, tt, tb, cnt, cv, ca, kc⟩, _, _, _, _, _, _, _, rfl, hf, p1.symm, ?_, p3, p4, p5, p6, F8, fun p hp => N8 p (.tail _ (by subst hes; exact hp))⟩
      dsimp only; omega
  case kD =>
    rintro ⟨n, nt, b, tn, tt, tb, cnt, cv, ca, kc⟩ u h5 tk5 hf ⟨p1, p2, p3, p4, p5, p6⟩ F6 N6
    refine hQ2 _ ⟨⟨n, nt, b, tn, tt, tb, cnt, cv, ca, kc⟩, _, _, _, _, _, _, _, rfl, hf, p1.symm, by simpa using p2, p3, p4, p5, p6, F6, fun p hp => N6 p (by subst hes; exact hp)⟩
end Mine
end
section
open PySem PySem.W PySem.Calls PyProof.Rows
set_option maxRecDepth 100000
namespace Mine
theorem eqvAll_ints : ∀ xs ys : List Int, PyData.eqvAll (xs.map PyData.int) (ys.map PyData.int) = decide (xs = ys)
  | [], [] => by simp [PyData.eqvAll]
  | [], _ :: _ => by simp [PyData.eqvAll]
  | _ :: _, [] => by simp [PyData.eqvAll]
  | a :: r, b :: t => by
    simp only [List.map_cons, PyData.eqvAll, PyData.eqv, eqvAll_ints r t]
    by_cases h : a = b <;> by_cases h' : r = t <;> simp [h, h']
theorem ints_canLay : ∀ xs : List Int, PyData.canLayAll0 (xs.map PyData.int) = true
  | [] => rfl
  | _ :: r => by simp [PyData.canLayAll0, PyData.canLay0, ints_canLay r]
theorem ints_depth : ∀ xs : List Int, PyData.depthAll (xs.map PyData.int) = 0
  | [] => rfl
  | _ :: r => by simp [PyData.depthAll, PyData.depth, ints_depth r]
theorem norm_shaped (xs : List Int) (b : Int) : SeqAt.shaped (.tuple [.tuple (xs.map PyData.int), .int b]) = true := by
  simp [SeqAt.shaped, PyData.canLay0, PyData.canLayAll0, PyData.depth, PyData.depthAll, ints_canLay, ints_depth]
theorem norm_reads {h : Heap} {nx ct : Addr} {cv : List Value} {cnt : List Int} {b : Int} {tb : Tok} (h1 : h.get? nx = some { cls := .type "tuple", data := .seq #[.ref ct, .int b tb] }) (h2 : h.get? ct = some { cls := .type "tuple", data := .seq cv.toArray }) (hi : IntsAre cv cnt) :
    Reads h (.ref nx) (.tuple [.tuple (cnt.map .int), .int b]) [] :=
  reads_tuple_at h1 rfl rfl (readsAll_cons_val (reads_tuple_ints ⟨_, h2, rfl, _, rfl⟩ hi) (readsAll_cons_val (Reads.int _ _) .nil))
theorem norm_eqv (xs ys : List Int) (b c : Int) : PyData.eqv (.tuple [.tuple (xs.map PyData.int), .int b]) (.tuple [.tuple (ys.map PyData.int), .int c]) = decide (xs = ys ∧ b = c) := by
  simp only [PyData.eqv, PyData.eqvAll, eqvAll_ints]
  by_cases h : xs = ys <;> by_cases h' : b = c <;> simp [h, h']
section
variable {prog : Program} {w : World} {A : Around} {E : Value → Shared → Prop} {s : Shared} {g : Heap} {L : Addr} {m : PySem.Str → Option Value}
theorem norm_eq {nx ny ct cu : Addr} {cv cw : List Value} {cnt cnu : List Int} {b c : Int} {tb tc : Tok} {Q : Value → Shared → Prop} (F : Fr g L s.heap m) (h1 : g.get? nx = some { cls := .type "tuple", data := .seq #[.ref ct, .int b tb] }) (h2 : g.get? ct = some { cls := .type "tuple", data := .seq cv.toArray }) (hi : IntsAre cv cnt)
    (h3 : g.get? ny = some { cls := .type "tuple", data := .seq #[.ref cu, .int c tc] }) (h4 : g.get? cu = some { cls := .type "tuple", data := .seq cw.toArray }) (hj : IntsAre cw cnu) (hu : A.units + 64 < cLine) (h : Q (.bool (decide (cnt = cnu ∧ b = c))) s) :
    wpAny (model prog w) A (compareOp .Eq (.ref nx) (.ref ny)) Q E s :=
  eq_dataH (norm_reads (F.keep _ _ h1) (F.keep _ _ h2) hi) (norm_reads (F.keep _ _ h3) (F.keep _ _ h4) hj) (norm_shaped _ _) (norm_shaped _ _) hu (by rw [norm_eqv]; exact h)
end
theorem lines_D6 : True := by
  w_top off
  k_with_none
  k_with "getAttr ref" => (k_here; k_dflt (refine get_own (by k_asm) (by k_asm) (by ((rename Fr _ _ _ _ => kF'); exact ⟨kF'.keep _ _ (by assumption), rfl, rfl, kF'.keep _ _ (by assumption)⟩)) (by k_is) (by k_is) (by k_is) (by k_is) (by assumption) (by k_handed) ?_; k_whole))
  k_with "compareOp Eq ref ref" => (k_here; k_dflt (refine Mine.norm_eq (by k_asm) (by assumption) (by assumption) (by assumption) (by assumption) (by assumption) (by assumption) (by ((have hcL9 := cLine_is); (simp only [units_in1, units_deeper, Around.mark_units, units_caller] at *); (try dsimp only [ktrTop] at *); omega)) ?_))
  trivial
set_option maxHeartbeats 40000000 in
theorem equal_tell (w : World) (mean mg mb) (x y : List Nat) (xa ya : Addr) :
    Tell w mean mg mb 110 1 100 [.ref xa, .ref ya] [] (fun g => WsC (fun a o => g.get? a = some o) xa x ∧ WsC (fun a o => g.get? a = some o) ya y) (fun _ tl r => tl = [] ∧ r = .bool (decide (normOf x = normOf y))) := by
  unfold Tell
  k_fill
  intro dp un gd cn cs a ccd cl outer A₀ base h₀ L m s Q E B F X N T hk hd hu hpre hret
  k_dflt (refine' enter ?k1 ?k2 ?k3 ?k4 ?k5 ?kK ?k6 ?k7 ?k8 ?k9 ?kB ?_ ?c2 ?c3 ?c4 ?c5; (case kK => assumption); (case k1 => k_asm); (case k2 => k_asm); (case k3 => k_asm); (case k4 => k_asm); (case k5 => k_asm); (case k6 => k_is); (case k7 => k_is); (case k8 => omega); (case k9 => exact BindsTo.of_eq rfl); (case c5 => decide); (case kB => exact locs rfl); (case c2 => exact rfl); (case c3 => exact rfl); (case c4 => exact rfl); k_whole)
  intro g1 L1 h1 eg F1 N1 l1 B1 X1 T1
  replace F1 := fr2 F1
  rw [← eg] at hret hpre
  clear l1
  generalize s.toks + _ = tk1
  refine shut fun P9 hP9 => ?_
  obtain ⟨⟨dx, es, k, nx, ct, cv, tr, tn, tb, n, nt, b, cnt, e1, a1, a2, a3, a4, a5, a6, a7, a8, a9⟩, ⟨dy, fs, k', ny, cu, cw, tr', tn', tb', n', nt', b', cnu, e2, b1, b2, b3, b4, b5, b6, b7, b8, b9⟩⟩ := hpre
  have hres : decide (normOf x = normOf y) = decide (cnt = cnu ∧ (b : Int) = (b' : Int)) := by
    unfold normOf
    rw [e1, e2]
    have hbb : ((b : Int) = (b' : Int)) ↔ b = b' := by omega
    simp [hbb]
  rw [hres] at hret
  (try dsimp only at a2 a3 a7 a8 b2 b3 b7 b8)
  refine hP9 ?_
  clear hP9 P9
  refine Mine.hold3 (by passes_own) fun Q0 E0 hQ0 hE0 => ?_
  (try k_fold)
  k_steps
  rename Fr g1 _ _ _ => F8
  refine' get_own (attr := none) (C := 134) (es := es) (n := k) ?k1 ?k2 ?k3 ?k4 ?k5 ?k6 ?k7 ?k8 ?k9 ?_
  case k1 => exact F8
  case k2 => exact X1
  case k3 => exact ⟨F8.keep _ _ a1, rfl, rfl, F8.keep _ _ a2⟩
  case k4 => k_is
  case k5 => k_is
  case k6 => k_is
  case k7 => k_is
  case k8 => assumption
  case k9 => k_handed
  k_steps
  refine' get_own (attr := none) (C := 134) (es := fs) (n := k') ?j1 ?j2 ?j3 ?j4 ?j5 ?j6 ?j7 ?j8 ?j9 ?_
  case j1 => exact F8
  case j2 => exact X1
  case j3 => exact ⟨F8.keep _ _ b1, rfl, rfl, F8.keep _ _ b2⟩
  case j4 => k_is
  case j5 => k_is
  case j6 => k_is
  case j7 => k_is
  case j8 => assumption
  case j9 => k_handed
  k_steps
  refine hQ0 _ _ ?_
  k_steps
  rename Fr g1 _ _ _ => F9
  rename Fr h₀ _ _ _ => kF
  rename News h₀ _ _ _ => kN
  exact hret _ _ _ _ kF kN F9.keep ⟨rfl, rfl⟩
end Mine
end
section
open PySem PySem.W PySem.Calls PyProof.Rows
set_option maxRecDepth 100000
namespace Mine
section
variable {prog : Program} {w : World} {A : Around} {E : Value → Shared → Prop} {s : Shared} {h₀ : Heap} {L a b : Addr} {m : PySem.Str → Option Value} {news : List (Addr × Obj)} {vs ws : List Value} {Q : Value → Shared → Prop}
theorem add_vals (F : Fr h₀ L s.heap m) (N : News h₀ L s.heap news) (ha : s.heap.IsList a vs.toArray) (hb : s.heap.IsList b ws.toArray) (hz : vs.length + ws.length ≤ 16777216)
    (h : ∀ D h', Fr h₀ L h' m → News h₀ L h' ((D, listOf (vs ++ ws).toArray 0) :: news) → (∀ p ∈ news, p.1 < D) → Q (.ref D) { s with heap := h' }) : wpAny (model prog w) A (binaryOp .Add (.ref a) (.ref b)) Q E s :=
  add_lists F N ha hb (fun h' F' N' => h _ h' F' N' fun p hp => Heap.lt_size (N p hp).1) (by rw [sizeLine_eq]; exact hz)
theorem str_item {value slice : Expr} {es : List PySem.Str} {k : Int} {i : Nat} {u : Tok} (F : Fr h₀ L s.heap m) (hl : h₀.IsList a vs.toArray) (he : StrsAre vs es) (hk : k = (i : Int)) (hi : i < es.length) (hz : i < 1000) {y : PySem.Str} (hy : es.getD i ⟨#[]⟩ = y)
    (h : ∀ t, Q (.str y t) s)
    (hs : subscripted slice false (.ref a) (.int k u) = operate [.ref a, .int k u] (getItem (.ref a) (.int k u)) := by with_unfolding_all rfl) :
    wpAny (model prog w) A (subscriptTail value slice (.ref a) (.int k u)) Q E s := by
  subst hk
  subst hy
  obtain ⟨t, ht⟩ := he.get i (es.getD i ⟨#[]⟩) (by simp [List.getD_eq_getElem?_getD, hi])
  have hl' : s.heap.IsList a vs.toArray := hl.at fun o e => F.keep a o e
  exact tail_any hl'.typeIs slot_list_getitem.lookup (wpAny_getItem_list hl' (by omega) (by omega) (by simpa using ht) (h t)) hs
end
end Mine
end
section
open PySem
namespace Mine
open PySem.StrLaws PySem.Builtin.Str
/-- an end of a row at a place -/
theorem at_end {L : List Nat} {i : Nat} : At (sOf L) (sOf [13, 10]) L.length i ↔ (L.drop i).take 2 = [13, 10] := by
  unfold At
  rw [subAt_eq]
  have e : (sOf L).cps.toList = L := by simp
  rw [e]
  show i + 2 ≤ L.length ∧ ((L.drop i).take 2 == [13, 10]) = true ↔ _
  rw [beq_iff_eq]
  constructor
  · exact fun h => h.2
  · intro h
    refine ⟨?_, h⟩
    have := congrArg List.length h
    simp at this
    omega
theorem parts_rows (L : List Nat) : ∀ (rows : List (List Nat)) (a : Nat) (cuts : List Nat) (f : Nat), (∀ r ∈ rows, clean r) → a ≤ L.length → L.drop a = rowTxt rows → ChainG (sOf L) (sOf [13, 10]) L.length a cuts f → (∀ k, f ≤ k → ¬ At (sOf L) (sOf [13, 10]) L.length k) →
    partsFrom (sOf L) 2 a cuts = rows.map sOf ++ [sOf []]
  | [], a, [], f, _, ha, hd, _, _ => by
    have : a = L.length := by
      have := congrArg List.length hd
      simp [rowTxt] at this
      omega
    subst this
    simp only [partsFrom, List.map_nil, List.nil_append, List.cons.injEq, and_true]
    have e : (sOf L).length = L.length := sOf_len L
    rw [e]
    apply Str.ext'
    apply Array.toList_inj.mp
    rw [strSub_toList]
    simp
  | [], a, c :: cs, f, _, ha, hd, hc, _ => by
    exfalso
    have h1 := hc.2.1.1
    have h2 := hc.1
    have : a = L.length := by
      have := congrArg List.length hd
      simp [rowTxt] at this
      omega
    have e : (sOf [13, 10]).length = 2 := rfl
    omega
  | r :: rows, a, cuts, f, hcl, ha, hd, hc, hf => by
    have hlen := congrArg List.length hd
    simp only [List.length_drop, rowTxt, List.length_append, List.length_cons] at hlen
    have h0 : At (sOf L) (sOf [13, 10]) L.length (a + r.length) := by
      rw [at_end, ← List.drop_drop, hd, rowTxt, List.drop_left]
      rfl
    have hno : ∀ k, a ≤ k → k < a + r.length → ¬ At (sOf L) (sOf [13, 10]) L.length k := by
      intro k h1 h2 hA
      rw [at_end] at hA
      obtain ⟨j, rfl⟩ : ∃ j, k = a + j := ⟨k - a, by omega⟩
      rw [← List.drop_drop, hd, rowTxt, List.drop_append_of_le_length (by omega)] at hA
      have hj : j < r.length := by omega
      have hm := List.drop_eq_getElem_cons hj
      rw [hm, List.cons_append, List.take_succ_cons] at hA
      exact (hcl r (.head _) r[j] (List.getElem_mem hj)).1 (List.cons.inj hA).1
    match cuts, hc with
    | [], hc =>
      exfalso
      have e : f = a := hc
      subst e
      exact hf _ (Nat.le_add_right _ _) h0
    | c :: cs, hc =>
      obtain ⟨h1, h2, h3, h4⟩ := hc
      have ec : c = a + r.length := by
        rcases Nat.lt_trichotomy c (a + r.length) with h | h | h
        · exact absurd h2 (hno c h1 h)
        · exact h
        · exact absurd h0 (h3 _ (Nat.le_add_right _ _) h)
      subst ec
      have hd2 : L.drop (a + r.length + 2) = rowTxt rows := by
        rw [← List.drop_drop, ← List.drop_drop, hd, rowTxt, List.drop_left]
        rfl
      have ih := parts_rows L rows (a + r.length + 2) cs f (fun q hq => hcl q (.tail _ hq)) (by omega) hd2 h4 hf
      simp only [partsFrom, ih, List.map_cons, List.cons_append, List.cons.injEq, and_true]
      apply Str.ext'
      apply Array.toList_inj.mp
      rw [strSub_toList]
      show (L.drop a).take (a + r.length - a) = r
      rw [hd, rowTxt, Nat.add_sub_cancel_left, List.take_left]
theorem rowTxt_pos : ∀ {rows : List (List Nat)}, rows ≠ [] → 2 ≤ (rowTxt rows).length
  | [], h => absurd rfl h
  | r :: rs, _ => by simp only [rowTxt, List.length_append, List.length_cons]; omega
/-- a text of rows, split at its ends -/
theorem split_rows (rows : List (List Nat)) (h : ∀ r ∈ rows, clean r) (hne : rows ≠ []) : Txt.split (sOf (rowTxt rows)) (sOf [13, 10]) = rows.map sOf ++ [sOf []] := by
  have hl := rowTxt_pos hne
  have e : (sOf (rowTxt rows)).length = (rowTxt rows).length := sOf_len _
  obtain ⟨f, hG, hn⟩ := occ_tight (sOf (rowTxt rows)) (sOf [13, 10]) (by decide)
  have key := parts_rows (rowTxt rows) rows 0 (occurrences (sOf (rowTxt rows)) (sOf [13, 10]) 0 (sOf (rowTxt rows)).length ((sOf (rowTxt rows)).length + 1)) f h (Nat.zero_le _) rfl (by rw [← e]; exact hG) (by rw [← e]; exact hn)
  unfold Txt.split
  have h1 : (decide ((sOf (rowTxt rows)).length < (sOf [13, 10]).length) || decide (Builtin.Str.strKind (sOf (rowTxt rows)) < Builtin.Str.strKind (sOf [13, 10]))) = false := by
    have k1 : Builtin.Str.strKind (sOf [13, 10]) = 1 := by decide +kernel
    have k2 : 1 ≤ Builtin.Str.strKind (sOf (rowTxt rows)) := by unfold Builtin.Str.strKind; (repeat' split) <;> omega
    have k3 : (sOf [13, 10]).length = 2 := rfl
    rw [Bool.or_eq_false_iff, decide_eq_false_iff_not, decide_eq_false_iff_not]
    omega
  have h2 : (occurrences (sOf (rowTxt rows)) (sOf [13, 10]) 0 (sOf (rowTxt rows)).length ((sOf (rowTxt rows)).length + 1)).isEmpty = false := by
    cases ho : occurrences (sOf (rowTxt rows)) (sOf [13, 10]) 0 (sOf (rowTxt rows)).length ((sOf (rowTxt rows)).length + 1) with
    | cons _ _ => rfl
    | nil =>
      rw [ho] at key
      have := congrArg List.length key
      simp [partsFrom] at this
      exact absurd this hne
  rw [h1, h2, if_neg (by decide), if_neg (by decide), partsBetween_eq]
  exact key
theorem replace_dots : ∀ n, n < 18 → Txt.replace (sOf (List.replicate n 46)) (sOf [46]) (sOf [46, 9]) = sOf (tabs n) := by decide +kernel
end Mine
end
section
open PySem PySem.W PySem.Calls PyProof.Rows
set_option maxRecDepth 100000
namespace Mine
def notDot (r : List Nat) : Bool := r.head? != some 46
theorem slice_head (row : List Nat) : (Txt.slice (sOf row) none (some 1) != Str.ofString ".") = notDot row := by
  cases row with
  | nil => decide +kernel
  | cons c r =>
    have h := slice_closes_to (x := sOf (c :: r)) (j := 1) ⟨by decide, by simp; omega⟩
    have e : Txt.slice (sOf (c :: r)) none (some 1) = sOf [c] := by
      have := eq_of_beq h
      rw [this]
      simp
    rw [e, show Str.ofString "." = sOf [46] from rfl, notDot, Bool.eq_iff_iff]
    simp
theorem pick_init (vs : List Value) (v : Value) : (slicePick (vs ++ [v]).toArray none (some (-1)) none).toList = vs := by
  have e : sliceBounds none (some (-1)) none (vs ++ [v]).toArray.size = (((0 : Nat) : Int), ((vs.length : Nat) : Int), 1) := by
    simp only [sliceBounds, Option.getD_none, show (1 : Int) > 0 by decide, if_true, if_pos (show (-1 : Int) < 0 by decide), List.size_toArray, List.length_append, List.length_singleton]
    congr 1
    congr 1
    omega
  rw [kmk_pick_nat _ e]
  simp
theorem pick_one (vs : List Value) : (slicePick vs.toArray none (some 1) none).toList = vs.take 1 := by
  have e : sliceBounds none (some 1) none vs.toArray.size = (((0 : Nat) : Int), ((min 1 vs.toArray.size : Nat) : Int), 1) := by
    simp only [sliceBounds, Option.getD_none, show (1 : Int) > 0 by decide, if_true, if_neg (show ¬ ((1 : Int) < 0) by decide)]
    congr 1
    congr 1
    omega
  rw [kmk_pick_nat _ e]
  simp only [List.drop_zero, Nat.sub_zero, List.size_toArray, kmk_take_min]
section
variable {prog : Program} {w : World} {A : Around} {E : Value → Shared → Prop} {s : Shared} {h₀ : Heap} {L a b l : Addr} {m : PySem.Str → Option Value} {news : List (Addr × Obj)} {vs ws zs : List Value} {v : Value} {Q : Value → Shared → Prop} {value slice : PySem.Expr}
theorem ne_same {xs ys : List Value} {ns : List PySem.Str} (ha : s.heap.IsList a xs.toArray) (hb : s.heap.IsList b ys.toArray) (hi : StrsAre xs ns) (hj : StrsAre ys ns) (hn : ∀ x ∈ ns, PyData.strOk x = true) (hu : A.units + 64 < cLine) (h : Q (.bool false) s) :
    wpAny (model prog w) A (compareOp .NotEq (.ref a) (.ref b)) Q E s :=
  ne_strs ha hb hi hj hn hn hu (by rw [decide_eq_true rfl]; exact h)
theorem str_itemZ {es : List PySem.Str} {k : Int} {u : Tok} (hl : s.heap.IsList a vs.toArray) (he : StrsAre vs es) (h0 : 0 ≤ k) (hi : k < (es.length : Int)) (hz : es.length ≤ 1000)
    (h : ∀ t, Q (.str (es.getD k.toNat ⟨#[]⟩) t) s)
    (hs : subscripted slice false (.ref a) (.int k u) = operate [.ref a, .int k u] (getItem (.ref a) (.int k u)) := by with_unfolding_all rfl) :
    wpAny (model prog w) A (subscriptTail value slice (.ref a) (.int k u)) Q E s := by
  have hlt : k.toNat < es.length := by omega
  obtain ⟨t, ht⟩ := he.get k.toNat (es.getD k.toNat ⟨#[]⟩) (by simp [List.getD_eq_getElem?_getD, hlt])
  exact tail_any hl.typeIs slot_list_getitem.lookup (wpAny_getItem_list hl h0 (by omega) (by simpa using ht) (h t)) hs
theorem mul20 {u : Tok} (F : Fr h₀ L s.heap m) (N : News h₀ L s.heap news) (hl : s.heap.IsList l [v].toArray)
    (h : ∀ D h', Fr h₀ L h' m → News h₀ L h' ((D, listOf (List.replicate 20 v).toArray 0) :: news) → (∀ p ∈ news, p.1 < D) → Q (.ref D) { s with heap := h' }) : wpAny (model prog w) A (binaryOp .Mult (.ref l) (.int 20 u)) Q E s :=
  KMa.mul F N hl (by decide) (by decide) (by simp) (by rfl) h
theorem split_call {rows : List (List Nat)} {t u : Tok} (F : Fr h₀ L s.heap m) (N : News h₀ L s.heap news) (hc : ∀ r ∈ rows, clean r) (hne : rows ≠ []) (hz : (rowTxt rows).length ≤ 100000)
    (h : ∀ D vs v h' k, StrsAre vs (rows.map sOf) → Fr h₀ L h' m → News h₀ L h' ((D, listOf (vs ++ [v]).toArray 0) :: news) → (∀ p ∈ news, p.1 < D) → Q (.ref D) { s with heap := h', toks := k }) :
    wpAny (model prog w) A (call (.builtin "str.split") [.str (sOf (rowTxt rows)) t, .str (Str.ofString "\r\n") u]) Q E s := by
  refine KSpl.split1 F N (by decide) (fun D l h' k e hS F' N' l1 => ?_) (by rw [sizeLine_eq, sOf_len]; omega)
  rw [show Str.ofString "\r\n" = sOf [13, 10] from rfl, split_rows rows hc hne] at e
  rw [e] at hS
  obtain ⟨vs, t', ev, hS'⟩ := strs_snoc hS
  rw [ev] at N'
  exact h D vs _ h' k hS' F' N' l1
theorem slice_init (F : Fr h₀ L s.heap m) (N : News h₀ L s.heap news) (hl : s.heap.IsList l (vs ++ [v]).toArray) {vl vu : Value} (pl : IsPart vl none) (pu : IsPart vu (some (-1)))
    (h : ∀ D h', Fr h₀ L h' m → News h₀ L h' ((D, listOf vs.toArray 0) :: news) → (∀ p ∈ news, p.1 < D) → Q (.ref D) { s with heap := h' })
    (hs : subscripted slice false (.ref l) (.ref s.heap.objs.size) = operate [.ref s.heap.objs.size, .ref l] (getItem (.ref l) (.ref s.heap.objs.size))) (ht : ∀ r, letTemporaryGo value (.ref l) r = pure ()) (hz : vs.length ≤ 100000) :
    wpAny (model prog w) A (subscriptTail value slice (.ref l) (.ref s.heap.objs.size)) Q E { s with heap := s.heap.push { cls := .type "slice", data := .fields #[vl, vu, .none] } } :=
  kmk_slice_lit F N hl pl pu (pick_init vs v) h hs ht (by rw [sizeLine_eq]; simp; omega)
theorem slice_one (F : Fr h₀ L s.heap m) (N : News h₀ L s.heap news) (hl : s.heap.IsList l vs.toArray) {vl vu : Value} (pl : IsPart vl none) (pu : IsPart vu (some 1))
    (h : ∀ D h', Fr h₀ L h' m → News h₀ L h' ((D, listOf (vs.take 1).toArray 0) :: news) → (∀ p ∈ news, p.1 < D) → Q (.ref D) { s with heap := h' })
    (hs : subscripted slice false (.ref l) (.ref s.heap.objs.size) = operate [.ref s.heap.objs.size, .ref l] (getItem (.ref l) (.ref s.heap.objs.size))) (ht : ∀ r, letTemporaryGo value (.ref l) r = pure ()) (hz : vs.length ≤ 100000) :
    wpAny (model prog w) A (subscriptTail value slice (.ref l) (.ref s.heap.objs.size)) Q E { s with heap := s.heap.push { cls := .type "slice", data := .fields #[vl, vu, .none] } } :=
  kmk_slice_lit F N hl pl pu (pick_one vs) h hs ht (by rw [sizeLine_eq]; simp; omega)
end
end Mine
end
section
open PySem PySem.W PySem.Calls PyProof.Rows
set_option maxRecDepth 100000
namespace Mine
/-- a goal at which the walk stands still -/
def Held (p : Prop) : Prop := p
theorem unheld {p : Prop} (h : Held p) : p := h
section
variable {prog : Program} {w : World} {A : Around} {E : Value → Shared → Prop} {s : Shared} {h₀ : Heap} {L : Addr} {m : PySem.Str → Option Value} {env : Env}
/-- a comprehension with a test, its turns by a word over what is built and the ledger -/
theorem comp_invT {ct elt : Expr} {x : PySem.Str} {scope : Scope} {cl : List (PySem.Str × Addr)} {S : List (Addr × Obj) → Prop} {P : Nat → Value → Prop} {Fin : List Value → List (Addr × Obj) → Prop} (n : Nat) (J : Nat → List Value → List (Addr × Obj) → Prop)
    (fin : ∀ ys news, J n ys news → Fin ys news)
    (turn : ∀ i ys news v I oI C oC D m₂ h tk (E' : Value → Shared → Prop), i < n → J i ys news → P i v → LCg.NsObj oC m₂ → m₂ x = some v → Fr h₀ L h m → News h₀ L h ((I, oI) :: (C, oC) :: (D, LCg.lst ys) :: news) → LCg.Off3 I C D news → ((@Ne Nat I C) ∧ (@Ne Nat I D) ∧ (@Ne Nat C D)) →
      wpAny (model prog w) A (isTrue ct (compEnvC scope cl C env) (eval ct (compEnvC scope cl C env))) (fun ok s' => if ok = true then
        wpAny (model prog w) A (eval elt (compEnvC scope cl C env)) (LCg.CompEnd h₀ L m { s with heap := h, toks := tk } I oI C oC D (LCg.lst ys) S (fun y news' => J (i + 1) (ys ++ [y]) news')) E' s'
        else LCg.CompEnd h₀ L m { s with heap := h, toks := tk } I oI C oC D (LCg.lst ys) S (fun _ news' => J (i + 1) ys news') Value.none s') E' { s with heap := h, toks := tk }) :
    ∀ k i ys news, i + k = n → J i ys news → LCt.CompRestT prog w A h₀ L m env ct elt x scope cl s S P Fin k i ys news
  | 0, i, ys, news, hk, hJ => by
    have e : i = n := by omega
    subst e
    exact LCt.CompRestT.zero (fin _ _ hJ)
  | k + 1, i, ys, news, hk, hJ => by
    refine LCt.CompRestT.succ fun v I oI C oC D m₂ h tk E' hP hC hx F N o3 ne => ?_
    refine wpAny_mono (turn i ys news v I oI C oC D m₂ h tk E' (by omega) hJ hP hC hx F N o3 ne) (fun ok s' q => ?_) fun _ _ e => e
    cases ok with
    | true =>
      simp only [if_true] at q ⊢
      refine wpAny_mono q (fun y s₂ q => ?_) fun _ _ e => e
      obtain ⟨h', tk', news', e, F', N', o', hS, r⟩ := q
      exact ⟨h', tk', news', e, F', N', o', hS, comp_invT n J fin turn k (i + 1) (ys ++ [y]) news' (by omega) r⟩
    | false =>
      simp only [Bool.false_eq_true, if_false] at q ⊢
      obtain ⟨h', tk', news', e, F', N', o', hS, r⟩ := q
      exact ⟨h', tk', news', e, F', N', o', hS, comp_invT n J fin turn k (i + 1) ys news' (by omega) r⟩
end
end Mine
end
section
open PySem PySem.W PySem.Calls PyProof.Rows
set_option maxRecDepth 100000
namespace Mine
theorem ki_setL_at : ∀ (l : List Value) (k : Nat) (v : Value), k < l.length → ki_setL l k v = some (l.set k v)
  | [], _, _, h => by simp at h
  | x :: r, 0, v, _ => rfl
  | x :: r, k + 1, v, h => by
    unfold ki_setL
    rw [ki_setL_at r k v (by simpa using h)]
    rfl
section
variable {prog : Program} {w : World} {A : Around} {E : Value → Shared → Prop} {s : Shared} {h₀ : Heap} {L D : Addr} {m : PySem.Str → Option Value} {news news' : List (Addr × Obj)} {vs : List Value} {n : Nat}
theorem set_vals {k : Int} {t : Tok} {v : Value} {Q : Unit → Shared → Prop} (F : Fr h₀ L s.heap m) (N : News h₀ L s.heap news) (h0 : 0 ≤ k) (hk : k < (vs.length : Int)) (hz : vs.length ≤ 1000) (U : Upd D (listOf vs.toArray n) (listOf (vs.set k.toNat v).toArray n) news news')
    (h : ∀ h', Fr h₀ L h' m → News h₀ L h' news' → Q () { s with heap := h' }) : wpAny (model prog w) A (setItem (.ref D) (.int k t) v) Q E s :=
  ki_set F N h0 (by omega) (by show ki_setL vs _ _ = _; exact ki_setL_at _ _ _ (by omega)) U h
theorem mul_blank {k : Nat} {t u : Tok} {Q : Value → Shared → Prop} (hk : k < 50) (h : ∀ t' k', Q (.str (sOf (List.replicate k 32)) t') { s with toks := k' }) :
    wpAny (model prog w) A (binaryOp .Mult (.str (Str.ofString " ") t) (.int (k : Int) u)) Q E s := by
  have e : ∀ k, k < 50 → Txt.mul (Str.ofString " ") ((k : Nat) : Int) = sOf (List.replicate k 32) := by decide +kernel
  refine KXi.mul (n := 1) (by decide +kernel) (by decide) (by omega) (by omega) fun t' k' _ _ => ?_
  rw [e k hk]
  exact h t' k'
theorem replace_call {n : Nat} {t u v : Tok} {Q : Value → Shared → Prop} (hn : n < 18) (hu : u ≠ 0) (hv : v ≠ 0) (huv : u ≠ v) (h : ∀ t' k', Q (.str (sOf (tabs n)) t') { s with toks := k' }) :
    wpAny (model prog w) A (call (.builtin "str.replace") [.str (sOf (List.replicate n 46)) t, .str (Str.ofString ".") u, .str (Str.ofString ".\t") v]) Q E s := by
  refine SC.replaceW hu hv huv (by decide +kernel) (by rw [sOf_len, List.length_replicate]; omega) (by decide +kernel) fun t' k' => ?_
  rw [show Str.ofString "." = sOf [46] from rfl, show Str.ofString ".\t" = sOf [46, 9] from rfl, replace_dots n hn]
  exact h t' k'
end
theorem rep_strs {t : Tok} : ∀ n, StrsAre (List.replicate n (Value.str (Str.ofString "") t)) ((List.replicate n ([] : List Nat)).map sOf)
  | 0 => .nil
  | n + 1 => .cons _ _ (rep_strs n)
theorem dots_ok (rs : List Nat) : ∀ z ∈ (rs.map fun n => List.replicate n 46).map sOf, PyData.strOk z = true := by
  intro z hz
  simp only [List.map_map, List.mem_map] at hz
  obtain ⟨n, _, rfl⟩ := hz
  exact sOf_ok (by intro c hc; rw [List.eq_of_mem_replicate hc]; decide)
/-- leads at addresses, with their texts -/
inductive Knows (has : Addr → Obj → Prop) : List Value → List (List Nat) → Prop
  | nil : Knows has [] []
  | cons {X : Addr} {x : List Nat} {vs : List Value} {xs : List (List Nat)} : WsC has X x → Knows has vs xs → Knows has (.ref X :: vs) (x :: xs)
theorem WsC.mono {has has' : Addr → Obj → Prop} (hh : ∀ a o, has a o → has' a o) {X : Addr} {x : List Nat} (h : WsC has X x) : WsC has' X x := by
  obtain ⟨dx, es, k, nx, ct, cv, tr, tn, tb, n, nt, b, cnt, e1, a1, a2, a3, a4, a5, a6, a7, a8, a9⟩ := h
  exact ⟨dx, es, k, nx, ct, cv, tr, tn, tb, n, nt, b, cnt, e1, hh _ _ a1, hh _ _ a2, a3, a4, a5, a6, hh _ _ a7, hh _ _ a8, a9⟩
theorem Knows.mono {has has' : Addr → Obj → Prop} (hh : ∀ a o, has a o → has' a o) {vs : List Value} {xs : List (List Nat)} (h : Knows has vs xs) : Knows has' vs xs := by
  induction h with
  | nil => exact .nil
  | cons hw _ ih => exact .cons (hw.mono hh) ih
theorem Knows.length {has : Addr → Obj → Prop} {vs : List Value} {xs : List (List Nat)} (h : Knows has vs xs) : vs.length = xs.length := by
  induction h with
  | nil => rfl
  | cons _ _ ih => simp [ih]
theorem Knows.snoc {has : Addr → Obj → Prop} {vs : List Value} {xs : List (List Nat)} (h : Knows has vs xs) {X : Addr} {x : List Nat} (hw : WsC has X x) : Knows has (vs ++ [.ref X]) (xs ++ [x]) := by
  induction h with
  | nil => exact .cons hw .nil
  | cons h' _ ih => exact .cons h' ih
theorem Knows.get {has : Addr → Obj → Prop} {vs : List Value} {xs : List (List Nat)} (h : Knows has vs xs) : ∀ i, i < xs.length → ∃ X, vs[i]? = some (.ref X) ∧ WsC has X (xs.getD i []) := by
  induction h with
  | nil => intro i hi; simp at hi
  | @cons X x vs xs hw _ ih =>
    intro i hi
    cases i with
    | zero => exact ⟨X, rfl, hw⟩
    | succ i => simpa using ih i (by simpa using hi)
/-- cells of leads: no lists, no cells of names -/
def OwnKind (own : List (Addr × Obj)) : Prop := ∀ p ∈ own, p.2.cls ≠ .type "list" ∧ ∀ v, p.2.data ≠ .cell v
theorem OwnKind.app {a b : List (Addr × Obj)} (ha : OwnKind a) (hb : OwnKind b) : OwnKind (a ++ b) := fun p hp => (List.mem_append.mp hp).elim (ha p) (hb p)
theorem OwnKind.nil : OwnKind [] := fun _ h => nomatch h
theorem own_off {g h : Heap} {L : Addr} {led own : List (Addr × Obj)} (N : News g L h led) (hk : OwnKind own) (hsub : ∀ p ∈ own, p ∈ led) {adr : List Addr} (hA : ∀ b ∈ adr, ∃ o, (b, o) ∈ led ∧ (o.cls = .type "list" ∨ ∃ v, o.data = .cell v)) : OwnOff own adr := by
  intro p hp b hb e
  obtain ⟨o, ho, hc⟩ := hA b hb
  have h1 := (N _ (hsub p hp)).1
  have h2 := (N _ ho).1
  rw [e] at h1
  have : p.2 = o := Option.some.inj (h1.symm.trans h2)
  have hq := hk p hp
  rw [this] at hq
  rcases hc with hc | ⟨v, hc⟩
  · exact hq.1 hc
  · exact hq.2 v hc
theorem WsC.four {has : Addr → Obj → Prop} {X : Addr} {x : List Nat} (h : WsC has X x) : ∃ four : List (Addr × Obj), (∀ p ∈ four, has p.1 p.2) ∧ OwnKind four ∧ WsC (fun a o => (a, o) ∈ four) X x := by
  obtain ⟨dx, es, k, nx, ct, cv, tr, tn, tb, n, nt, b, cnt, e1, a1, a2, a3, a4, a5, a6, a7, a8, a9⟩ := h
  refine ⟨[(X, instObj 134 dx), (dx, dictOf es k), (nx, { cls := .type "tuple", data := .seq #[.ref ct, .int (b : Int) tb] }), (ct, { cls := .type "tuple", data := .seq cv.toArray })], ?_, ?_, dx, es, k, nx, ct, cv, tr, tn, tb, n, nt, b, cnt, e1, .head _, .tail _ (.head _), a3, a4, a5, a6, .tail _ (.tail _ (.head _)), .tail _ (.tail _ (.tail _ (.head _))), a9⟩
  · intro p hp
    simp only [List.mem_cons, List.not_mem_nil, or_false] at hp
    rcases hp with rfl | rfl | rfl | rfl
    · exact a1
    · exact a2
    · exact a7
    · exact a8
  · intro p hp
    simp only [List.mem_cons, List.not_mem_nil, or_false] at hp
    rcases hp with rfl | rfl | rfl | rfl
    · exact ⟨(fun e => nomatch e), fun v e => nomatch e⟩
    · exact ⟨(fun e => by injection e with e; exact absurd e (by decide)), fun v e => nomatch e⟩
    · exact ⟨(fun e => by injection e with e; exact absurd e (by decide)), fun v e => nomatch e⟩
    · exact ⟨(fun e => by injection e with e; exact absurd e (by decide)), fun v e => nomatch e⟩
section
variable {w : World} {mean : ExcName → Option Value} {mg mb : PySem.Str → Option Value}
  {dp un : Nat} {gd : Option (List Code)} {cn : PySem.Str} {cs : Scope} {a : Addr} {ccd : Value} {cl : List (PySem.Str × Addr)} {outer : List Env} {A₀ : Around} {base h₀ : Heap} {L : Addr} {m : PySem.Str → Option Value} {s : Shared} {news : List (Addr × Obj)}
  {Q E : Value → Shared → Prop}
/-- a lead made, at a call -/
theorem use_make {x : List Nat} {xt : Tok} (hl : x.length ≤ 1000) (B : Below A₀ base outer h₀) (F : Fr h₀ L s.heap m) (X : (hd.heap_39 w.params).In h₀) (N : News h₀ L s.heap news)
    (T : Top hd.view_39 (looseW hd.view_39 [Str.ofString "EXACT_TOKEN_TYPES", Str.ofString "_twin_re_1", Str.ofString "_twin_re_2", Str.ofString "Whitespace"]) mean mg mb h₀) (hk : cs.kind = .function) (hd1 : dp + 2 < recursionLimit) (hu : un + 200 < cLine)
    (ret : ∀ X four h' tk', Fr h₀ L h' m → News h₀ L h' (news ++ four) → OwnKind four → WsC (fun a o => (a, o) ∈ four) X x → Q (.ref X) { s with heap := h', toks := tk' }) :
    wpAny (model PySem.Challenge.rw_rw0103_01.row.prog w) (ktrTop dp un gd cn cs L a ccd cl outer) (call (.ref 134) [.str (sOf x) xt]) Q E s := by
  refine use_pure (make_tell w mean mg mb x xt hl) B F X N T hk hd1 hu trivial fun r tl h' tk' F' N' _ _ hp => ?_
  obtain ⟨X, rfl, hw⟩ := hp
  obtain ⟨four, h1, h2, h3⟩ := hw.four
  refine ret X four h' tk' F' (fun p hp => ?_) h2 h3
  rcases List.mem_append.mp hp with hp | hp
  · exact N' p (List.mem_append.mpr (.inr hp))
  · exact N' p (List.mem_append.mpr (.inl (h1 p hp)))
/-- two leads compared, at a call -/
theorem use_equal {x y : List Nat} {xa ya : Addr} (hx : WsC (fun a o => s.heap.get? a = some o) xa x) (hy : WsC (fun a o => s.heap.get? a = some o) ya y) (B : Below A₀ base outer h₀) (F : Fr h₀ L s.heap m) (X : (hd.heap_39 w.params).In h₀) (N : News h₀ L s.heap news)
    (T : Top hd.view_39 (looseW hd.view_39 [Str.ofString "EXACT_TOKEN_TYPES", Str.ofString "_twin_re_1", Str.ofString "_twin_re_2", Str.ofString "Whitespace"]) mean mg mb h₀) (hk : cs.kind = .function) (hd1 : dp + 1 < recursionLimit) (hu : un + 100 < cLine)
    (ret : ∀ h' tk', Fr h₀ L h' m → News h₀ L h' news → Q (.bool (decide (normOf x = normOf y))) { s with heap := h', toks := tk' }) :
    wpAny (model PySem.Challenge.rw_rw0103_01.row.prog w) (ktrTop dp un gd cn cs L a ccd cl outer) (call (.ref 110) [.ref xa, .ref ya]) Q E s := by
  refine use_pure (equal_tell w mean mg mb x y xa ya) B F X N T hk hd1 hu ⟨hx, hy⟩ fun r tl h' tk' F' N' _ _ hp => ?_
  obtain ⟨rfl, rfl⟩ := hp
  exact ret h' tk' F' (by simpa using N')
end
end Mine
end
section
open PySem PySem.W PySem.Calls PyProof.Rows
set_option maxRecDepth 100000
namespace Mine
theorem ite_yes {c : Prop} [Decidable c] {P R : Prop} (h : c) (p : P) : if c then P else R := by rw [if_pos h]; exact p
theorem ite_no {c : Prop} [Decidable c] {P R : Prop} (h : ¬ c) (p : R) : if c then P else R := by rw [if_neg h]; exact p
theorem snoc_cases {α : Type} (l : List α) : l = [] ∨ ∃ L b, l = L ++ [b] := by
  by_cases h : l = []
  · exact .inl h
  · exact .inr ⟨l.dropLast, l.getLast h, (List.dropLast_concat_getLast h).symm⟩
theorem ints_cons {x : Int} {xs : List Int} {vs : List Value} (h : IntsAre vs (x :: xs)) : ∃ t ws, vs = .int x t :: ws ∧ IntsAre ws xs := by
  cases h with
  | cons _ t h => exact ⟨t, _, rfl, h⟩
theorem here_len (kn : List (List Nat)) (x : List Nat) : (hereOf kn x).length ≤ kn.length := by
  unfold hereOf
  exact Nat.le_trans (List.length_filter_le ..) (by simp)
theorem mul_blankE {prog : Program} {w : World} {A : Around} {E : Value → Shared → Prop} {s : Shared} {i : Int} {k : Nat} {t u : Tok} {Q : Value → Shared → Prop} (hi : i = (k : Int)) (hk : k < 50) (h : ∀ t' k', Q (.str (sOf (List.replicate k 32)) t') { s with toks := k' }) :
    wpAny (model prog w) A (binaryOp .Mult (.str (Str.ofString " ") t) (.int i u)) Q E s := by
  subst hi
  exact mul_blank hk h
theorem strs_set {x : PySem.Str} {t : Tok} : ∀ {vs : List Value} {xs : List PySem.Str}, StrsAre vs xs → ∀ i, StrsAre (vs.set i (.str x t)) (xs.set i x)
  | _, _, .nil, _ => by simp only [List.set_nil]; exact .nil
  | _, _, .cons y u h, 0 => .cons _ _ h
  | _, _, .cons y u h, i + 1 => .cons _ _ (strs_set h i)
theorem kids_set {kids : List (List Nat)} {vs : List Value} (h : StrsAre vs (kids.map sOf)) (i : Nat) (x : List Nat) (t : Tok) : StrsAre (vs.set i (.str (sOf x) t)) ((kids.set i x).map sOf) := by
  rw [List.map_set]
  exact strs_set h i
theorem ints_shaped (xs : List Int) : SeqAt.shaped (.list (xs.map PyData.int)) = true := by
  simp [SeqAt.shaped, PyData.canLay0, PyData.depth, ints_canLay, ints_depth]
section
variable {prog : Program} {w : World} {A : Around} {E : Value → Shared → Prop} {s : Shared} {a b : Addr} {xs : List Value} {v : Value} {n : Int} {ns : List Int} {Q : Value → Shared → Prop}
theorem eq_cons_nil (ha : s.heap.IsList a (v :: xs).toArray) (hb : s.heap.IsList b ([] : List Value).toArray) (hi : IntsAre (v :: xs) (n :: ns)) (hu : A.units + 64 < cLine) (h : Q (.bool false) s) :
    wpAny (model prog w) A (compareOp .Eq (.ref a) (.ref b)) Q E s :=
  eq_dataH (reads_newData ha hi.carried) (reads_newData hb (IntsAre.carried .nil)) (ints_shaped _) (ints_shaped []) hu (by simp only [List.map_nil, List.map_cons, PyData.eqv, PyData.eqvAll]; exact h)
end
theorem len_tabs : ∀ n, (tabs n).length = 2 * n
  | 0 => rfl
  | n + 1 => by simp only [tabs, List.length_cons, len_tabs n]; omega
section
variable {prog : Program} {w : World} {A : Around} {E : Value → Shared → Prop} {s : Shared} {h₀ : Heap} {L D a : Addr} {m : PySem.Str → Option Value} {news news' : List (Addr × Obj)} {vs : List Value} {c : Nat} {value slice : PySem.Expr}
theorem len_row {n : Nat} {t : Tok} {Q : Value → Shared → Prop} (hn : n < 1000) (h : Q (.int (n : Int) (s.toks + 1)) { s with toks := s.toks + 1 + 1 }) : wpAny (model prog w) A (call (.builtin "len") [.str (sOf (List.replicate n 46)) t]) Q E s := by
  have e : (sOf (List.replicate n 46)).length = n := by rw [sOf_len, List.length_replicate]
  refine P.len_str (by rw [e]; omega) ?_
  rw [e]; exact h
theorem kid_item {kids : List (List Nat)} {j : Nat} {u : Tok} {Q : Value → Shared → Prop} (hl : s.heap.IsList a vs.toArray) (he : StrsAre vs (kids.map sOf)) (hj : j < kids.length) (hz : kids.length ≤ 1000)
    (h : ∀ t, Q (.str (sOf (kids.getD j [])) t) s)
    (hs : subscripted slice false (.ref a) (.int (j : Int) u) = operate [.ref a, .int (j : Int) u] (getItem (.ref a) (.int (j : Int) u)) := by with_unfolding_all rfl) :
    wpAny (model prog w) A (subscriptTail value slice (.ref a) (.int (j : Int) u)) Q E s := by
  refine str_itemZ hl he (by omega) (by rw [List.length_map]; omega) (by rw [List.length_map]; omega) (fun t => ?_) hs
  have e : (kids.map sOf).getD (j : Int).toNat ⟨#[]⟩ = sOf (kids.getD j []) := by
    simp only [Int.toNat_natCast, List.getD_eq_getElem?_getD, List.getElem?_map, hj, getElem?_pos, Option.map_some, Option.getD_some]
  rw [e]
  exact h t
theorem kid_item1 {kids : List (List Nat)} {n : Nat} {u : Tok} {Q : Value → Shared → Prop} (hl : s.heap.IsList a vs.toArray) (he : StrsAre vs (kids.map sOf)) (hj : n + 1 < kids.length) (hz : kids.length ≤ 1000)
    (h : ∀ t, Q (.str (sOf (kids.getD (n + 1) [])) t) s)
    (hs : subscripted slice false (.ref a) (.int ((n : Int) + 1) u) = operate [.ref a, .int ((n : Int) + 1) u] (getItem (.ref a) (.int ((n : Int) + 1) u)) := by with_unfolding_all rfl) :
    wpAny (model prog w) A (subscriptTail value slice (.ref a) (.int ((n : Int) + 1) u)) Q E s :=
  kid_item (j := n + 1) hl he hj hz h hs
theorem add_s {x y : List Nat} {t u : Tok} {Q : Value → Shared → Prop} (hz : x.length + y.length ≤ 100000) (h : ∀ t' k, Q (.str (sOf (x ++ y)) t') { s with toks := k }) : wpAny (model prog w) A (binaryOp .Add (.str (sOf x) t) (.str (sOf y) u)) Q E s := by
  refine SB.add (fun t' k => ?_) (by rw [sOf_len, sOf_len, sizeLine_eq]; omega)
  rw [sOf_app]; exact h t' k
theorem add_tab {x : List Nat} {t u : Tok} {Q : Value → Shared → Prop} (hz : x.length ≤ 99999) (h : ∀ t' k, Q (.str (sOf (x ++ [9])) t') { s with toks := k }) : wpAny (model prog w) A (binaryOp .Add (.str (sOf x) t) (.str (Str.ofString "\t") u)) Q E s :=
  add_s (y := [9]) (by simp only [List.length_singleton]; omega) h
theorem set_kid {j : Nat} {t : Tok} {v : Value} {Q : Unit → Shared → Prop} (F : Fr h₀ L s.heap m) (N : News h₀ L s.heap news) (hk : j < vs.length) (hz : vs.length ≤ 1000) (U : Upd D (listOf vs.toArray c) (listOf (vs.set j v).toArray c) news news')
    (h : ∀ h', Fr h₀ L h' m → News h₀ L h' news' → Q () { s with heap := h' }) : wpAny (model prog w) A (setItem (.ref D) (.int (j : Int) t) v) Q E s :=
  set_vals F N (by omega) (by omega) hz (by rw [Int.toNat_natCast]; exact U) h
theorem set_kid1 {n : Nat} {t : Tok} {v : Value} {Q : Unit → Shared → Prop} (F : Fr h₀ L s.heap m) (N : News h₀ L s.heap news) (hk : n + 1 < vs.length) (hz : vs.length ≤ 1000) (U : Upd D (listOf vs.toArray c) (listOf (vs.set (n + 1) v).toArray c) news news')
    (h : ∀ h', Fr h₀ L h' m → News h₀ L h' news' → Q () { s with heap := h' }) : wpAny (model prog w) A (setItem (.ref D) (.int ((n : Int) + 1) t) v) Q E s :=
  set_kid (j := n + 1) F N hk hz U h
theorem known_item {i : Nat} {v : Value} {u : Tok} {Q : Value → Shared → Prop} (hl : s.heap.IsList a vs.toArray) (hi : vs[i]? = some v) (hz : vs.length ≤ 1000) (h : Q v s)
    (hs : subscripted slice false (.ref a) (.int (0 + (i : Int)) u) = operate [.ref a, .int (0 + (i : Int)) u] (getItem (.ref a) (.int (0 + (i : Int)) u)) := by with_unfolding_all rfl) :
    wpAny (model prog w) A (subscriptTail value slice (.ref a) (.int (0 + (i : Int)) u)) Q E s := by
  have hlt : i < vs.length := (List.getElem?_eq_some_iff.mp hi).1
  have e : (0 + (i : Int)).toNat = i := by omega
  exact tail_any hl.typeIs slot_list_getitem.lookup (wpAny_getItem_list hl (by omega) (by omega) (by rw [e]; simpa using hi) h) hs
theorem equal_method {pl : Sem Bool} {X : Addr} {x : List Nat} {Q : Value × List Value → Shared → Prop} (F : Fr h₀ L s.heap m) (X₀ : (hd.heap_39 w.params).In h₀) (hw : WsC (fun a o => s.heap.get? a = some o) X x) (h : Q (.ref 110, [.ref X]) s) :
    wpAny (model PySem.Challenge.rw_rw0103_01.row.prog w) A (getMethod (.ref X) (Str.ofString "equal") pl) Q E s := by
  revert X₀
  k_fill
  intro X₀
  obtain ⟨dx, es, k, nx, ct, cv, tr, tn, tb, n, nt, b, cnt, e1, a1, a2, a3, a4, a5, a6, a7, a8, a9⟩ := hw
  refine method_inst (C := 134) (es := es) (n := k) F X₀ ⟨a1, rfl, rfl, a2⟩ ?_ ?_ ?_ a6 h
  · k_is
  · k_is
  · k_is
end
end Mine
end
section
open PySem PySem.W PySem.Calls PyProof.Rows
set_option maxRecDepth 100000
namespace Mine
theorem lines_D7 : True := by
  w_top off
  k_with_none
  k_with "call builtin:len" => (k_here; (with_reducible show wpAny _ _ (call (Value.builtin "len") [Value.ref _]) _ _ _); k_dflt (refine kst_len (by k_asm) (by k_memK) (by assumption) (by omega) ?_; k_whole))
  k_with "call builtin:list.pop" => (k_here; k_dflt (refine Mine.pop_snoc (by k_asm) (by k_asm) (by k_upd) (by first | omega | ((simp only [List.length_append, List.length_cons, List.length_nil] at *); omega)) ?_); k_whole; (intro h' F' N'; (try dsimp only [List.nil_append, List.cons_append] at N'); revert h'; intros))
  k_with "compareOp NotEq ref ref" => (k_here; (with_reducible show wpAny _ _ (compareOp CmpOp.NotEq (Value.ref _) (Value.ref _)) _ _ _); k_dflt (refine Mine.ne_strs (by is_list) (by is_list) (by first | assumption | exact StrsAre.nil) (by first | assumption | exact StrsAre.nil) (by first | assumption | exact Mine.nil_ok | exact Mine.cls_ok _) (by first | assumption | exact Mine.nil_ok | exact Mine.cls_ok _) (by ((have hcL9 := cLine_is); (simp only [units_in1, units_deeper, Around.mark_units, units_caller] at *); (try dsimp only [ktrTop] at *); omega)) ?_))
  k_with "binaryOp Add ref ref" => (k_here; (with_reducible show wpAny _ _ (binaryOp _ (Value.ref _) (Value.ref _)) _ _ _); k_dflt (refine Mine.add_vals (by k_asm) (by k_asm) (by is_list) (by is_list) (by ((try simp only [List.length_cons, List.length_nil, List.length_append] at *); omega)) ?_); intro D' h' F' N' l1; (try k_lt l1); (try k_sweep); revert D' h'; intros)
  k_with "subscriptTail" => (k_here; (with_reducible show wpAny _ _ (subscriptTail _ _ (Value.ref _) (Value.int _ _)) _ _ _); k_dflt (refine Mine.str_itemZ (by is_list) (by assumption) (by omega) (by (simp only [List.length_map]; omega)) (by (simp only [List.length_map]; omega)) ?_); intro _)
  k_with "subscriptTail" => (k_here; (with_reducible show wpAny _ _ (subscriptTail _ _ (Value.ref _) (Value.int _ _)) _ _ _); k_dflt (refine Mine.str_item (by k_asm) (by k_asm) (by assumption) (by assumption) (by (simp only [List.length_map]; omega)) (by omega) (by assumption) ?_); intro _)
  k_with "call ref" => (k_here; (with_reducible show wpAny _ _ (call (Value.ref 72) [Value.str _ _]) _ _ _); k_dflt (refine Mine.use_text (Mine.quote_tell _ _ _ _ _ _ (by assumption)) (by k_asm) (by k_asm) (by k_asm) (by k_asm) (by k_asm) (by first | rfl | assumption) (by omega) (by omega) trivial ?_); (intro r9 h9 tk9 F9 N9 hp9; obtain ⟨tt9, e9⟩ := hp9; subst e9; (try dsimp only); revert h9 tk9 tt9; intros))
  k_with "call builtin:str.split" => (k_here; k_dflt (refine Mine.split_call (by k_asm) (by k_asm) (by assumption) (by assumption) (by assumption) ?_); intro D' ws' v' h' k' hS' F' N' l1; (try k_lt l1); (try k_sweep); revert D' ws' v' h' k'; intros)
  k_with "subscriptTail" => (k_here; (with_reducible show wpAny _ _ (subscriptTail _ (PySem.Expr.Slice none (some _) none _) (Value.ref _) (Value.ref _)) _ _ _); k_dflt (first | (refine Mine.slice_init (by k_asm) (by k_asm) (by is_list) (by kmk_part) (by kmk_part) ?_ (by with_unfolding_all rfl) (by kmk_pure) (by first | omega | ((rename StrsAre _ _ => hS9); (have hS8 := hS9.length); (simp only [List.length_map] at hS8); omega))) | (refine Mine.slice_one (by k_asm) (by k_asm) (by is_list) (by kmk_part) (by kmk_part) ?_ (by with_unfolding_all rfl) (by kmk_pure) (by first | omega | (simp only [List.length_cons, List.length_nil]; omega)))); intro D' h' F' N' l1; (try k_lt l1); (try k_sweep); revert D' h'; intros)
  k_with "compareOp NotEq ref ref" => (k_here; (with_reducible show wpAny _ _ (compareOp CmpOp.NotEq (Value.ref _) (Value.ref _)) _ _ _); k_dflt (refine Mine.ne_same (by is_list) (by is_list) (by assumption) (by assumption) (by assumption) (by ((have hcL9 := cLine_is); (simp only [units_in1, units_deeper, Around.mark_units, units_caller] at *); (try dsimp only [ktrTop] at *); omega)) ?_))
  k_with "CompSrc" => (k_here; refine Mine.unheld ?_)
  k_with "CompSrcT" => (k_here; refine Mine.unheld ?_)
  k_with "binaryOp Mult ref int" => (k_here; (with_reducible show wpAny _ _ (binaryOp Operator.Mult (Value.ref _) (Value.int _ _)) _ _ _); k_dflt (refine Mine.mul20 (by k_asm) (by k_asm) (by is_list) ?_); intro D' h' F' N' l1; (try k_lt l1); (try k_sweep); revert D' h'; intros)
  k_with "call builtin:len" => (k_here; (with_reducible show wpAny _ _ (call (Value.builtin "len") [Value.str _ _]) _ _ _); (refine Mine.len_row (by omega) ?_))
  k_with "call builtin:str.replace" => (k_here; (refine Mine.replace_call (by omega) (by show @Ne Nat _ _; omega) (by show @Ne Nat _ _; omega) (by show @Ne Nat _ _; omega) ?_); intro _ _)
  k_with "binaryOp Add str str" => (k_here; first | (refine Mine.add_s (by (simp only [List.length_append, List.length_replicate, Mine.len_tabs]; omega)) ?_) | (refine Mine.add_tab (by (simp only [List.length_append, List.length_replicate, Mine.len_tabs]; omega)) ?_); intro _ _)
  k_with "binaryOp Mult str int" => (k_here; (with_reducible show wpAny _ _ (binaryOp Operator.Mult (Value.str _ _) (Value.int _ _)) _ _ _); k_dflt (refine Mine.mul_blankE (by exact rfl) (by omega) ?_); intro _ _)
  k_with "subscriptTail" => (k_here; (with_reducible show wpAny _ _ (subscriptTail _ _ (Value.ref _) (Value.int (_ + 1) _)) _ _ _); k_dflt (refine Mine.kid_item1 (by is_list) (by assumption) (by omega) (by omega) ?_); intro _)
  k_with "subscriptTail" => (k_here; (with_reducible show wpAny _ _ (subscriptTail _ _ (Value.ref _) (Value.int (Nat.cast _) _)) _ _ _); k_dflt (refine Mine.kid_item (by is_list) (by assumption) (by omega) (by omega) ?_); intro _)
  k_with "subscriptTail" => (k_here; (with_reducible show wpAny _ _ (subscriptTail _ _ (Value.ref _) (Value.int (0 + Nat.cast _) _)) _ _ _); k_dflt (refine Mine.known_item (by is_list) (by assumption) (by omega) ?_))
  k_with "setItem ref int" => (k_here; (with_reducible show wpAny _ _ (setItem (Value.ref _) (Value.int (_ + 1) _) _) _ _ _); k_dflt (refine Mine.set_kid1 (by k_asm) (by k_asm) ?_ ?_ (by k_upd) ?_; (· omega); (· omega)); (intro h' F' N'; (try dsimp only [List.nil_append, List.cons_append] at N'); revert h'; intros))
  k_with "setItem ref int" => (k_here; (with_reducible show wpAny _ _ (setItem (Value.ref _) (Value.int (Nat.cast _) _) _) _ _ _); k_dflt (refine Mine.set_kid (by k_asm) (by k_asm) ?_ ?_ (by k_upd) ?_; (· omega); (· omega)); (intro h' F' N'; (try dsimp only [List.nil_append, List.cons_append] at N'); revert h'; intros))
  k_with "getMethod ref" => (k_here; (with_reducible show wpAny _ _ (getMethod (Value.ref _) (PySem.Str.ofString "equal") _) _ _ _); refine Mine.unheld ?_)
  k_with "call ref" => (k_here; (first | (with_reducible show wpAny _ _ (call (Value.ref 110) [_, _]) _ _ _) | (with_reducible show wpAny _ _ (call (Value.ref 134) [_]) _ _ _)); refine Mine.unheld ?_)
  k_with "compareOp Eq ref ref" => (k_here; (with_reducible show wpAny _ _ (compareOp CmpOp.Eq (Value.ref _) (Value.ref _)) _ _ _); k_dflt (refine Mine.eq_cons_nil (by is_list) (by is_list) (by assumption) (by ((have hcL9 := cLine_is); (simp only [units_in1, units_deeper, Around.mark_units, units_caller] at *); (try dsimp only [ktrTop] at *); omega)) ?_))
  trivial
structure LA where
  ma : Addr
  mv : List Value
  km : Nat
  pv : List Value
  kp : Nat
  pile : List (List Nat)
  marks : List (List Nat)
structure LW where
  rs : List Nat
  rv : List Value
  kr : Nat
  kids : List (List Nat)
  kiv : List Value
  kki : Nat
  labs : List Nat
  la : Addr
  lv : List Value
  lk : Nat
  kn : List (List Nat)
  kv : List Value
  kk : Nat
  o1 : Obj
  own : List (Addr × Obj)
set_option maxHeartbeats 40000000 in
theorem labels_tell (w : World) (mean mg mb) (x : List Nat) (xt : Tok) (ea ka : Addr) (ev : List Value) (es : List (List Nat)) (kv : List Value) (kk : Nat) (own : List (Addr × Obj)) (kx : List (List Nat)) (hkn : Knows (fun a o => (a, o) ∈ own) kv kx) (hok : OwnKind own) (he : StrsAre ev (es.map sOf)) (hl : es.length = 10) (he2 : ∀ e ∈ es, e.length ≤ 2) (hx : x.length ≤ 20) (tx : List Nat) (mk : List (List Nat)) (hb : ∀ c ∈ x, isBr c) (hrun : pileRun (fun i => es.getD i []) x [[]] [] = some ([tx], mk)) (rows : List (List Nat)) (htx : tx = rowTxt rows) (hrc : ∀ r ∈ rows, clean r) (hrn : rows ≠ []) (hrl : rows.length ≤ 40) (hr20 : ∀ r ∈ rows, r.length ≤ 400) (hmk : rows.filter notDot = mk) (hmo : ∀ z ∈ mk.map sOf, PyData.strOk z = true) (h23 : 2 * rows.length = 3 * mk.length) (ns : List Nat) (hth : (List.range (rows.length / 3)).map (fun k => rows.getD (3 * k) []) = ns.map fun n => List.replicate n 46) (htl : (rowTxt rows).length ≤ 100000) (fx : List (List Nat)) (fl : List Nat) (hfin : lrun ((1 :: ns).reverse) (List.replicate 20 []) kx [] = some (fx, fl)) :
    Tell w mean mg mb 162 6 400 [.str (sOf x) xt, .ref ea, .ref ka] ((ka, listOf kv.toArray kk) :: own) (fun g => g.IsList ea ev.toArray) (fun _ news' r => ∃ (a : Addr) (lv : List Value) (k : Nat) (kv' : List Value) (kk' : Nat) (own' : List (Addr × Obj)), r = .ref a ∧ (∀ p ∈ (a, listOf lv.toArray k) :: (ka, listOf kv'.toArray kk') :: own', p ∈ news') ∧ IntsAre lv (fl.map Int.ofNat) ∧ Knows (fun a o => (a, o) ∈ own') kv' fx ∧ OwnKind own') := by
  unfold Tell
  k_fill
  intro dp un gd cn cs a ccd cl outer A₀ base h₀ L m s Q E B F X N T hk hd hu hpre hret
  k_dflt (refine' enterK ?k1 ?k2 ?k3 ?k4 ?k5 ?kK ?k6 ?k7 ?k8 ?k9 ?kB ?kD ?_ ?c2 ?c3 ?c4; (case kK => assumption); (case k1 => k_asm); (case k2 => k_asm); (case k3 => k_asm); (case k4 => k_asm); (case k5 => k_asm); (case k6 => k_is); (case k7 => k_is); (case k8 => omega); (case k9 => exact BindsTo.of_eq rfl); (case kB => exact rfl); (case kD => decide +kernel); (case c2 => exact rfl); (case c3 => exact rfl); (case c4 => exact rfl); k_whole)
  intro g1 L1 h1 tk1 cells eg F1 N1 Y1 l1 B1 X1 T1
  replace F1 : Fr g1 L1 h1 (fun y => if y = Str.ofString "ends" then some (.ref ea) else if y = Str.ofString "text" then some (.str (sOf x) xt) else none) := by with_unfolding_all exact F1
  k_cells Y1
  (try simp only [List.cons_append, List.nil_append] at N1)
  rename_i o1 o2 o3 d1 d2 d3
  replace d1 : o1.data = Data.cell none := d1.trans (by with_unfolding_all rfl)
  replace d2 : o2.data = Data.cell none := d2.trans (by with_unfolding_all rfl)
  replace d3 : o3.data = Data.cell (some (.ref ka)) := d3.trans (by with_unfolding_all rfl)
  rw [← eg] at hret hpre
  have hkL : @LT.lt Nat _ ka L1 := l1 _ (.head _)
  clear l1
  have hsl := sOf_len x
  have kM : KstMark := kstMark
  refine Mine.hold3 (by passes_own) fun Q0 E0 hQ0 hE0 => ?_
  generalize hr : (Stmt.For _ _ _ _ _ :: _ : List Stmt) = rest
  (try k_fold)
  k_steps
  subst hr
  refine wpAny_execs_cons ?_
  rename Fr g1 L1 _ _ => F3
  rename News g1 L1 _ _ => N3
  rename_i lP _ lPl lM _ lMl _ _ _ _ _ _
  have N4 : News g1 L1 _ ((lM, listOf #[] 0) :: (lP, listOf #[_] 0) :: (L1 + 1 + 1 + 1, o1) :: (L1 + 1 + 1, o2) :: (L1 + 1, o3) :: (ka, listOf kv.toArray kk) :: own) := fun p hp => N3 p (List.Mem.tail _ hp)
  clear N3
  (with_unfolding_all refine' For_invVF F3 ?k1 ?k2 ?_; (case k1 => exact rfl); (case k2 => exact rfl))
  refine held fun Q1 hQ1 => ?_
  k_steps
  refine hQ1 _ _ ?_
  with_unfolding_all refine' text_st (σ := LA) (fun c => ((c.ma, listOf c.mv.toArray c.km) :: (lP, listOf c.pv.toArray c.kp) :: (L1 + 1 + 1 + 1, o1) :: (L1 + 1 + 1, o2) :: (L1 + 1, o3) :: (ka, listOf kv.toArray kk) :: own)) (fun c => [(Str.ofString "marks", .ref c.ma), (Str.ofString "pile", .ref lP)]) (fun c => StrsAre c.pv (c.pile.reverse.map sOf) ∧ StrsAre c.mv (c.marks.map sOf)) [Str.ofString "end", Str.ofString "block"] (fun r c => pileRun (fun i => es.getD i []) r c.pile c.marks = some ([tx], mk) ∧ c.pile.length ≤ 1 + c.marks.length ∧ c.marks.length ≤ 22 ∧ @LT.lt Nat _ lP c.ma ∧ ∀ c ∈ r, isBr c) ⟨lM, [], 0, [_], 0, [[]], []⟩ ?kh ?kF ?kN ?kf ?kP ?kp ?kT ?kD
  case kh => rfl
  case kF => assumption
  case kN => assumption
  case kf => exact ⟨.cons _ _ .nil, .nil⟩
  case kp => exact ⟨hrun, Nat.le_refl _, Nat.zero_le _, lMl.1, hb⟩
  case kP =>
    intro p hp
    simp only [List.mem_cons, List.not_mem_nil, or_false] at hp
    rcases hp with rfl | rfl <;> rfl
  case kT =>
    intro I c6 d r it dt u h5 tk5 hI hca hf6 hp6 F6 N6
    refine shut fun P9 hP9 => ?_
    obtain ⟨ma, mv, km, pv, kp, pile, marks, rfl⟩ : ∃ ma mv km pv kp pile marks, c6 = (⟨ma, mv, km, pv, kp, pile, marks⟩ : LA) := ⟨_, _, _, _, _, _, _, rfl⟩
    obtain ⟨hf1, hf2⟩ := hf6
    obtain ⟨p1, p2, p3, p4, p5⟩ := hp6
    dsimp only [kstB] at hI hca hf1 hf2 p1 p2 p3 p4 p5 F6 N6
    have hml : mv.length = marks.length := by have := hf2.length; simpa using this
    have hpl : pv.length = pile.length := by have := hf1.length; simpa using this
    have hIM : @LT.lt Nat _ lM I := hI _ (.head _)
    have hOff : OwnOff own [lP] := own_off N6 hok (fun p hp => .tail _ (.tail _ (.tail _ (.tail _ (.tail _ (.tail _ (.tail _ hp))))))) (by
      intro b hb
      obtain rfl := List.mem_singleton.mp hb
      exact ⟨_, .tail _ (.tail _ (.head _)), .inl rfl⟩)
    by_cases hop : d = 40 ∨ d = 91 ∨ d = 123
    case pos =>
      have hm20 : marks.length < 20 := by
        unfold pileRun at p1
        rw [if_pos hop] at p1
        by_cases h : marks.length < 20
        · exact h
        · rw [if_neg h] at p1; cases p1
      rw [pile_open _ hop _ _ _ hm20] at p1
      have hfd : ((marks.length : Int)).fdiv 2 = ((marks.length / 2 : Nat) : Int) := by
        rw [Int.fdiv_eq_ediv_of_nonneg _ (by omega)]; rfl
      have hey : (es.map sOf).getD (marks.length / 2) ⟨#[]⟩ = sOf (es.getD (marks.length / 2) []) := by
        have : marks.length / 2 < es.length := by omega
        simp [List.getD_eq_getElem?_getD, this]
      have hel : (es.getD (marks.length / 2) []).length ≤ 2 := by
        refine he2 _ ?_
        have : marks.length / 2 < es.length := by omega
        simp [List.getD_eq_getElem?_getD, this]
      have hesl := sOf_len (es.getD (marks.length / 2) [])
      have hocc : (Builtin.Str.occurrences (Str.ofString "([{") ⟨#[d]⟩ 0 (Str.ofString "([{").length 1).isEmpty = false := by
        rcases hop with rfl | rfl | rfl <;> decide +kernel
      refine hP9 ?_
      clear hP9
      dsimp only [kstB]
      refine Mine.hold2 fun Q8 E8 hQ8 _ => ?_
      (try k_fold)
      k_steps
      refine hQ8 _ _ ?_
      clear hQ8
      rename Fr g1 _ _ _ => F8
      rename News g1 _ _ _ => N8
      rename_i t5 _ _ _ tk6 t6 _ _ l6 _ l6l D9 _ l9 _
      have e1 : Str.ofString "." ++ sOf (es.getD (marks.length / 2) []) ++ Str.ofString "\r" ++ (⟨#[d]⟩ : Str) ++ Str.ofString "." ++ sOf (es.getD (marks.length / 2) []) = sOf (46 :: (es.getD (marks.length / 2) [] ++ 13 :: d :: 46 :: es.getD (marks.length / 2) [])) := by
        rw [show Str.ofString "." = sOf [46] from rfl, show Str.ofString "\r" = sOf [13] from rfl, show (⟨#[d]⟩ : Str) = sOf [d] from rfl]
        simp only [sOf_app]
        simp
      have e2 : (⟨#[d]⟩ : Str) ++ Str.ofString "." = sOf [d, 46] := by
        rw [show Str.ofString "." = sOf [46] from rfl, show (⟨#[d]⟩ : Str) = sOf [d] from rfl, sOf_app]; rfl
      rw [e1, e2, List.push_toArray, show Str.ofString "" = sOf [] from rfl] at N8
      have hp9 : pileRun (fun i => es.getD i []) r ((46 :: (es.getD (marks.length / 2) [] ++ 13 :: d :: 46 :: es.getD (marks.length / 2) [])) :: pile) (marks ++ [[], [d, 46]]) = some ([tx], mk) ∧ ((46 :: (es.getD (marks.length / 2) [] ++ 13 :: d :: 46 :: es.getD (marks.length / 2) [])) :: pile).length ≤ 1 + (marks ++ [[], [d, 46]]).length ∧ (marks ++ [[], [d, 46]]).length ≤ 22 ∧ @LT.lt Nat _ lP D9 ∧ ∀ c ∈ r, isBr c :=
        ⟨p1, by simp; omega, by simp; omega, l9.2.2.2.1, fun c hc => p5 c (.tail _ hc)⟩
      refine text_end ⟨D9, mv ++ [.str (sOf []) tk6, .str (sOf [d, 46]) t6], 0, pv ++ [.str (sOf (46 :: (es.getD (marks.length / 2) [] ++ 13 :: d :: 46 :: es.getD (marks.length / 2) []))) t5], kp + 1, (46 :: (es.getD (marks.length / 2) [] ++ 13 :: d :: 46 :: es.getD (marks.length / 2) [])) :: pile, marks ++ [[], [d, 46]]⟩ F8 N8 ?n ?off ⟨?f1, ?f2⟩ ?ps ?same hp9
      case n => ((try dsimp only); (repeat (first | with_reducible exact fun _ h => h | with_reducible exact sub_nil | (with_reducible refine sub_cons ?_ ?_; (focus first | ((repeat (first | with_reducible exact List.mem_cons_self | with_reducible refine List.mem_cons_of_mem _ ?_)); done) | ((repeat (first | with_unfolding_all exact List.Mem.head _ | refine List.Mem.tail _ ?_)); done))) | with_reducible refine sub_skip ?_)))
      case off =>
        refine each_cons ?_ (each_cons ?_ (each_cons ?_ (each_cons ?_ (each_cons ?_ (each_cons ?_ (fun p hp => ?_))))))
        · exact Ne.symm (Nat.ne_of_lt l9.2.1)
        · show @Ne Nat lP I
          exact hca (lP, _) (.tail _ (.head _))
        · exact hca _ (.tail _ (.tail _ (.head _)))
        · exact hca _ (.tail _ (.tail _ (.tail _ (.head _))))
        · exact hca _ (.tail _ (.tail _ (.tail _ (.tail _ (.head _)))))
        · exact hca _ (.tail _ (.tail _ (.tail _ (.tail _ (.tail _ (.head _))))))
        · exact hca _ (.tail _ (.tail _ (.tail _ (.tail _ (.tail _ (.tail _ hp))))))
      case f1 => rw [List.reverse_cons, List.map_append]; exact StrsAre.append' hf1 (.cons _ _ .nil)
      case f2 => rw [List.map_append]; exact StrsAre.append' hf2 (.cons _ _ (.cons _ _ .nil))
      case ps => exact each_cons rfl (each_cons rfl each_nil)
      case same => kst_same
    case neg =>
      have hcl : d = 41 ∨ d = 93 ∨ d = 125 := by
        rcases p5 d (.head _) with h | h | h | h | h | h <;> simp [h] at hop ⊢
      have hocc : (Builtin.Str.occurrences (Str.ofString "([{") ⟨#[d]⟩ 0 (Str.ofString "([{").length 1).isEmpty = true := by
        rcases hcl with rfl | rfl | rfl <;> decide +kernel
      obtain ⟨b, q, pl, rfl, hb4, hq4⟩ : ∃ b q pl, pile = b :: q :: pl ∧ b.length ≤ 400 ∧ q.length ≤ 400 := by
        unfold pileRun at p1
        rw [if_neg hop] at p1
        match pile, p1 with
        | b :: q :: pl, p1 =>
          refine ⟨b, q, pl, rfl, ?_⟩
          by_cases h : b.length ≤ 400 ∧ q.length ≤ 400
          · exact h
          · simp only [h, if_false] at p1; cases p1
      rw [pile_close _ hop _ _ _ _ _ hb4 hq4] at p1
      simp only [List.reverse_cons, List.map_append, List.map_cons, List.map_nil] at hf1
      obtain ⟨pv, bt, rfl, hf3⟩ := strs_snoc hf1
      obtain ⟨pv, qt, rfl, hf4⟩ := strs_snoc hf3
      have hsb := sOf_len b
      have hsq := sOf_len q
      have hbl : (dots true (norm b)).length ≤ 2000 := by
        have h1 := len_dots (norm b) true
        have h2 := len_norm _ b (Nat.le_refl _)
        omega
      have hsn := sOf_len (dots true (norm b))
      refine hP9 ?_
      clear hP9
      dsimp only [kstB]
      refine Mine.hold2 fun Q8 E8 hQ8 _ => ?_
      (try k_fold)
      k_steps
      refine hQ8 _ _ ?_
      clear hQ8
      rename Fr g1 _ _ _ => F8
      rename News g1 _ _ _ => N8
      rename_i t5 _ _ _
      rw [sOf_app, List.push_toArray] at N8
      have hp9 : pileRun (fun i => es.getD i []) r ((q ++ dots true (norm b)) :: pl) marks = some ([tx], mk) ∧ ((q ++ dots true (norm b)) :: pl).length ≤ 1 + marks.length ∧ marks.length ≤ 22 ∧ @LT.lt Nat _ lP ma ∧ ∀ c ∈ r, isBr c :=
        ⟨p1, by simp only [List.length_cons] at p2 ⊢; omega, p3, p4, fun c hc => p5 c (.tail _ hc)⟩
      refine text_end ⟨ma, mv, km, pv ++ [.str (sOf (q ++ dots true (norm b))) t5], kp + 1 + 1 + 1, (q ++ dots true (norm b)) :: pl, marks⟩ F8 N8 ?n ?off ⟨?f1, ?f2⟩ ?ps ?same hp9
      case n => exact fun _ h => h
      case off =>
        refine each_cons ?_ (each_cons ?_ (each_cons ?_ (each_cons ?_ (each_cons ?_ (each_cons ?_ (fun p hp => ?_))))))
        · exact hca _ (.head _)
        · show @Ne Nat lP I
          exact hca (lP, _) (.tail _ (.head _))
        · exact hca _ (.tail _ (.tail _ (.head _)))
        · exact hca _ (.tail _ (.tail _ (.tail _ (.head _))))
        · exact hca _ (.tail _ (.tail _ (.tail _ (.tail _ (.head _)))))
        · exact hca _ (.tail _ (.tail _ (.tail _ (.tail _ (.tail _ (.head _))))))
        · exact hca _ (.tail _ (.tail _ (.tail _ (.tail _ (.tail _ (.tail _ hp))))))
      case f1 => rw [List.reverse_cons, List.map_append]; exact StrsAre.append' hf4 (.cons _ _ .nil)
      case f2 => exact hf2
      case ps => exact each_cons rfl (each_cons rfl each_nil)
      case same => kst_same
  case kD =>
    intro c6 u h5 tk5 hf6 hp6 F6 N6
    clear F3 N4 hQ1 Q1
    refine shut fun P9 hP9 => ?_
    obtain ⟨ma, mv, km, pv, kp, pile, marks, rfl⟩ : ∃ ma mv km pv kp pile marks, c6 = (⟨ma, mv, km, pv, kp, pile, marks⟩ : LA) := ⟨_, _, _, _, _, _, _, rfl⟩
    obtain ⟨hf1, hf2⟩ := hf6
    obtain ⟨p1, p2, p3, p4, _⟩ := hp6
    dsimp only [kstB] at hf1 hf2 p1 p2 p3 p4 F6 N6
    have hOff : OwnOff own [L1 + 1 + 1, L1 + 1 + 1 + 1, ka] := own_off N6 hok (fun p hp => .tail _ (.tail _ (.tail _ (.tail _ (.tail _ (.tail _ hp)))))) (by
      refine each_cons ?_ (each_cons ?_ (each_cons ?_ each_nil))
      · exact ⟨_, .tail _ (.tail _ (.tail _ (.head _))), .inr ⟨_, d2⟩⟩
      · exact ⟨_, .tail _ (.tail _ (.head _)), .inr ⟨_, d1⟩⟩
      · exact ⟨_, .tail _ (.tail _ (.tail _ (.tail _ (.tail _ (.head _))))), .inl rfl⟩)
    rw [pileRun] at p1
    obtain ⟨rfl, rfl⟩ := Prod.mk.inj (Option.some.inj p1)
    simp only [List.reverse_cons, List.reverse_nil, List.nil_append, List.map_cons, List.map_nil] at hf1
    obtain ⟨pt, _, rfl, hf3⟩ := StrsAre.cons_inv hf1
    obtain rfl := StrsAre.nil_inv hf3
    clear hf1 hf3 p1 p2
    subst htx
    have hst := sOf_len (rowTxt rows)
    refine hP9 ?_
    clear hP9
    dsimp only [kstB]
    generalize hr : (Stmt.If _ _ _ _ :: _ : List Stmt) = rest
    k_steps
    subst hr
    rename Fr g1 L1 _ _ => F7
    rename News g1 L1 _ _ => N7
    rename (Obj.data _ = Data.cell (some _)) => d2'
    rename StrsAre _ _ => hrv
    rename_i l8 rv _ _ _ _ l9 _ l9l _ o4
    have N8 : News g1 L1 _ ((l9, listOf rv.toArray 0) :: (ma, listOf mv.toArray km) :: (L1 + 1 + 1 + 1, o1) :: (L1 + 1 + 1, o4) :: (L1 + 1, o3) :: (ka, listOf kv.toArray kk) :: own) := news_sub N7 (by ((try dsimp only); (repeat (first | with_reducible exact fun _ h => h | with_reducible exact sub_nil | (with_reducible refine sub_cons ?_ ?_; (focus first | ((repeat (first | with_reducible exact List.mem_cons_self | with_reducible refine List.mem_cons_of_mem _ ?_)); done) | ((repeat (first | with_unfolding_all exact List.Mem.head _ | refine List.Mem.tail _ ?_)); done))) | with_reducible refine sub_skip ?_))))
    clear N7
    generalize hlc : Expr.ListComp _ _ _ _ = lc
    generalize hr : (Stmt.Assign _ _ _ :: _ : List Stmt) = rest
    k_steps
    rw [← hlc]
    have hrvl : rv.length = rows.length := by have := hrv.length; simpa using this
    k_dflt (refine LCt.ListComp_T (F₀ := F7) (by with_unfolding_all rfl) (by decide) (by rfl) (by decide) (by rfl) ?_)
    k_steps
    show LCt.CompSrcT _ _ _ _ _ _ _ _ _ _ _ _ _ _ _
    refine LCt.CompSrcT.ledger (by rfl) F7 N8 (.head _) (by rw [sizeLine_eq, List.size_toArray]; omega) ?_
    intro g2
    rw [show rv.toArray.size = rows.length by rw [List.size_toArray]; exact hrvl]
    refine comp_invT rows.length (fun i ys news => StrsAre ys (((rows.take i).filter notDot).map sOf) ∧ news = ((l9, listOf rv.toArray 0) :: (ma, listOf mv.toArray km) :: (L1 + 1 + 1 + 1, o1) :: (L1 + 1 + 1, o4) :: (L1 + 1, o3) :: (ka, listOf kv.toArray kk) :: own)) ?fin ?turn rows.length 0 [] _ (by omega) ⟨.nil, rfl⟩
    case turn =>
      rintro i ys news v I oI C oC D m2 h3 tk3 E' hi ⟨hy, rfl⟩ hv hC hm2 F5 N5 o3f ne3
      have hri : rows[i]? = some rows[i] := List.getElem?_eq_getElem hi
      have hr100 := hr20 rows[i] (List.getElem_mem hi)
      obtain ⟨rt, hrt⟩ := hrv.get i (sOf rows[i]) (by rw [List.getElem?_map, hri]; rfl)
      obtain rfl : v = .str (sOf rows[i]) rt := by
        rw [List.getElem?_toArray, hrt] at hv
        exact (Option.some.inj hv).symm
      have htake : (rows.take (i + 1)).filter notDot = (rows.take i).filter notDot ++ (if notDot rows[i] then [rows[i]] else []) := by
        rw [List.take_add_one, hri, List.filter_append]
        congr 1
        simp only [Option.toList_some, List.filter_cons, List.filter_nil]
      generalize rows[i] = row at *
      have hrsl := sOf_len row
      k_steps
      all_goals (rename Fr g1 L1 _ _ => F8)
      all_goals (rename News g1 L1 _ _ => N8')
      all_goals (rename ((_ != _) = _) => hnd)
      all_goals rw [slice_head] at hnd
      all_goals rw [hnd] at htake
      case _ =>
        refine LCg.CompEnd.intro F8 N8' _ (fun _ h => h) o3f (.inr ⟨_, .head _, rfl, _, rfl⟩) ⟨?_, rfl⟩
        rw [htake, if_pos rfl, List.map_append]
        exact StrsAre.append' hy (.cons _ _ .nil)
      case _ =>
        refine LCg.CompEnd.intro F8 N8' _ (fun _ h => h) o3f (.inr ⟨_, .head _, rfl, _, rfl⟩) ⟨?_, rfl⟩
        rw [htake, if_neg (by decide), List.append_nil]
        exact hy
    case fin =>
    rintro ys news ⟨hy, rfl⟩
    rw [List.take_length] at hy
    intro D h4 tk4 F8 N9 o1f
    simp only [LCg.Off1, and_true] at o1f
    clear F7 N8
    rw [hmk] at hy
    have hyl : ys.length = marks.length := by have := hy.length; simpa using this
    have hml : mv.length = marks.length := by have := hf2.length; simpa using this
    clear hlc lc
    k_steps
    case _ => exfalso; omega
    subst hr
    dsimp only
    rename Fr g1 L1 _ _ => F7
    rename News g1 L1 _ _ => N7
    have N8 : News g1 L1 _ ((l9, listOf rv.toArray 0) :: (L1 + 1 + 1 + 1, o1) :: (L1 + 1 + 1, o4) :: (L1 + 1, o3) :: (ka, listOf kv.toArray kk) :: own) := news_sub N7 (by ((try dsimp only); (repeat (first | with_reducible exact fun _ h => h | with_reducible exact sub_nil | (with_reducible refine sub_cons ?_ ?_; (focus first | ((repeat (first | with_reducible exact List.mem_cons_self | with_reducible refine List.mem_cons_of_mem _ ?_)); done) | ((repeat (first | with_unfolding_all exact List.Mem.head _ | refine List.Mem.tail _ ?_)); done))) | with_reducible refine sub_skip ?_))))
    clear N7
    generalize hw : (Stmt.While _ _ _ _ :: _ : List Stmt) = rest
    generalize hlc : Expr.ListComp _ _ _ _ = lc
    k_steps
    rw [← hlc]
    clear hlc lc
    rename Fr g1 L1 _ _ => F9
    rename News g1 L1 _ _ => N9
    rename_i tk0 lLab _ lLabl _ _ _ lKid _ lKidl _ _ _ _ _ _ lDot _ lDotl
    have N8 : News g1 L1 _ ((lDot, listOf #[.str (Str.ofString ".") tk] 0) :: (lKid, listOf (List.replicate 20 (Value.str (Str.ofString "") tk0)).toArray 0) :: (lLab, listOf #[] 0) :: (l9, listOf rv.toArray 0) :: (L1 + 1 + 1 + 1, o1) :: (L1 + 1 + 1, o4) :: (L1 + 1, o3) :: (ka, listOf kv.toArray kk) :: own) := news_sub N9 (by ((try dsimp only); (repeat (first | with_reducible exact fun _ h => h | with_reducible exact sub_nil | (with_reducible refine sub_cons ?_ ?_; (focus first | ((repeat (first | with_reducible exact List.mem_cons_self | with_reducible refine List.mem_cons_of_mem _ ?_)); done) | ((repeat (first | with_unfolding_all exact List.Mem.head _ | refine List.Mem.tail _ ?_)); done))) | with_reducible refine sub_skip ?_))))
    clear N9
    k_dflt (refine LCg.ListComp_U (F₀ := F9) (by with_unfolding_all rfl) (by decide) (by rfl) (by decide) (by rfl) ?_)
    k_steps
    show LCg.CompSrc _ _ _ _ _ _ _ _ _ _ _ _ _ _
    rename IsRange _ _ _ _ _ _ _ _ => hR
    rename Fr g1 L1 _ _ => F7
    rename News g1 L1 _ _ => N7
    have hfd3 : ((rows.length : Int)).fdiv 3 = ((rows.length / 3 : Nat) : Int) := by
      rw [Int.fdiv_eq_ediv_of_nonneg _ (by omega)]; rfl
    rw [hfd3] at hR
    refine LCg.CompSrc.range (n := rows.length / 3) (by rfl) F7 N7 hR (small_one (by omega) (by omega) (by omega) (by omega)) (by rw [rangeSize_nat]; omega) (by rw [sizeLine_eq]; omega) ?_
    intro g3
    refine comp_inv (rows.length / 3) (fun i ys news => StrsAre ys (((List.range i).map fun k => rows.getD (3 * k) []).map sOf) ∧ news = ((lDot, listOf #[.str (Str.ofString ".") tk] 0) :: (lKid, listOf (List.replicate 20 (Value.str (Str.ofString "") tk0)).toArray 0) :: (lLab, listOf #[] 0) :: (l9, listOf rv.toArray 0) :: (L1 + 1 + 1 + 1, o1) :: (L1 + 1 + 1, o4) :: (L1 + 1, o3) :: (ka, listOf kv.toArray kk) :: own)) ?fin2 ?turn2 (rows.length / 3) 0 [] _ (by omega) ⟨.nil, rfl⟩
    case turn2 =>
      rintro i ys news v I oI C oC D m2 h3 tk3 E' hi ⟨hy, rfl⟩ ⟨t, rfl⟩ hC hm2 F5 N5 o3f ne3
      have e9 : ∀ z : Int, z = ((3 * i : Nat) : Int) → (rows.map sOf).getD z.toNat ⟨#[]⟩ = sOf (rows.getD (3 * i) []) := by
        rintro z rfl
        have : 3 * i < rows.length := by omega
        simp only [Int.toNat_natCast, List.getD_eq_getElem?_getD, List.getElem?_map, this, getElem?_pos, Option.map_some, Option.getD_some]
      k_steps
      rename Fr g1 L1 _ _ => F8
      rename News g1 L1 _ _ => N8'
      refine LCg.CompEnd.intro F8 N8' _ (fun _ h => h) o3f trivial ⟨?_, rfl⟩
      rw [List.range_succ, List.map_append, List.map_append]
      refine StrsAre.append' hy ?_
      rw [e9]
      · exact .cons _ _ .nil
      · omega
    case fin2 =>
    rintro ys news ⟨hy, rfl⟩
    rw [hth] at hy
    intro D h4 tk4 F8 N9 o1f
    simp only [LCg.Off1, and_true] at o1f
    clear F7 N7
    have hnl : ns.length = rows.length / 3 := by have := congrArg List.length hth; simpa using this.symm
    have hyl : ys.length = ns.length := by have := hy.length; simpa using this
    k_steps
    subst hw
    rename Fr g1 L1 _ _ => F7
    rename News g1 L1 _ _ => N7
    rename (Obj.data _ = Data.cell (some _)) => d5
    rename_i lR _ lRl _ o5
    have N8 : News g1 L1 _ ((lR, listOf (Value.str (Str.ofString ".") tk :: ys).toArray 0) :: (lKid, listOf (List.replicate 20 (Value.str (Str.ofString "") tk0)).toArray 0) :: (lLab, listOf #[] 0) :: (L1 + 1 + 1 + 1, o1) :: (L1 + 1 + 1, o5) :: (L1 + 1, o3) :: (ka, listOf kv.toArray kk) :: own) := news_sub N7 (by ((try dsimp only); (repeat (first | with_reducible exact fun _ h => h | with_reducible exact sub_nil | (with_reducible refine sub_cons ?_ ?_; (focus first | ((repeat (first | with_reducible exact List.mem_cons_self | with_reducible refine List.mem_cons_of_mem _ ?_)); done) | ((repeat (first | with_unfolding_all exact List.Mem.head _ | refine List.Mem.tail _ ?_)); done))) | with_reducible refine sub_skip ?_))))
    clear N7
    refine wpAny_execs_cons ?_
    dsimp only at F7 ⊢
    with_unfolding_all refine' ksw_while (σ := LW) (fun c => (lR, listOf c.rv.toArray c.kr) :: (lKid, listOf c.kiv.toArray c.kki) :: (c.la, listOf c.lv.toArray c.lk) :: (L1 + 1 + 1 + 1, c.o1) :: (L1 + 1 + 1, o5) :: (L1 + 1, o3) :: (ka, listOf c.kv.toArray c.kk) :: c.own) (fun c => [(Str.ofString "labels", .ref c.la)]) (fun c => StrsAre c.rv ((c.rs.map fun n => List.replicate n 46).map sOf) ∧ StrsAre c.kiv (c.kids.map sOf) ∧ IntsAre c.lv (c.labs.map Int.ofNat) ∧ Knows (fun a o => (a, o) ∈ c.own) c.kv c.kn ∧ OwnKind c.own ∧ ∃ v, c.o1.data = Data.cell v) [Str.ofString "row", Str.ofString "here"] (fun c => lrun c.rs.reverse c.kids c.kn c.labs = some (fx, fl) ∧ c.kids.length = 20 ∧ c.rs.length ≤ 20 ∧ @LT.lt Nat _ (L1 + 1 + 1 + 1) c.la ∧ @LT.lt Nat _ ka c.la ∧ @Ne Nat c.la lR ∧ @Ne Nat c.la lKid) (fun c => c.rs.length) ⟨1 :: ns, Value.str (Str.ofString ".") tk :: ys, 0, List.replicate 20 [], List.replicate 20 (Value.str (Str.ofString "") tk0), 0, [], lLab, [], 0, kx, kv, kk, o1, own⟩ F7 N8 ?jf ?jP ?jp ?jT
    case jf => exact ⟨.cons _ _ hy, rep_strs 20, .nil, hkn, hok, _, d1⟩
    case jp =>
      have q1 : @LT.lt Nat _ lLab lKid := lKidl.2.1
      have q2 : @LT.lt Nat _ lKid lR := lRl.2.2.1
      exact ⟨hfin, by simp, by simp only [List.length_cons]; omega, lLabl.2.1, lLabl.2.2.2.2.1, Nat.ne_of_lt (Nat.lt_trans q1 q2), Nat.ne_of_lt q1⟩
    case jP =>
      intro p hp
      simp only [List.mem_cons, List.not_mem_nil, or_false] at hp
      subst hp
      rfl
    clear F7 N8
    intro c6 u6 h6 tk6 hfA hpA F6 N6
    refine shut fun P9 hP9 => ?_
    obtain ⟨rs, rw1, kr, kids, kiv, kki, labs, la, lv, lk, kn, kw, kq, oL, ow, rfl⟩ : ∃ rs rw1 kr kids kiv kki labs la lv lk kn kw kq oL ow, c6 = (⟨rs, rw1, kr, kids, kiv, kki, labs, la, lv, lk, kn, kw, kq, oL, ow⟩ : LW) := ⟨_, _, _, _, _, _, _, _, _, _, _, _, _, _, _, rfl⟩
    obtain ⟨hf1, hf2, hf3, hf4, hf5, hf6⟩ := hfA
    obtain ⟨hP1, hP2, hP3, hP4, hP5, hP6, hP7⟩ := hpA
    dsimp only [kstB] at hf1 hf2 hf3 hf4 hf5 hf6 hP1 hP2 hP3 hP4 hP5 hP6 hP7 F6 N6
    have hoR := dots_ok rs
    refine hP9 ?_
    clear hP9
    dsimp only [kstB]
    refine held fun Q1 hQ1 => ?_
    k_steps
    refine hQ1 _ _ ?_
    clear hQ1 Q1
    rename Fr g1 L1 _ _ => F7
    rename News g1 L1 _ _ => N7
    have N8 : News g1 L1 _ ((lR, listOf rw1.toArray kr) :: (lKid, listOf kiv.toArray kki) :: (la, listOf lv.toArray lk) :: (L1 + 1 + 1 + 1, oL) :: (L1 + 1 + 1, o5) :: (L1 + 1, o3) :: (ka, listOf kw.toArray kq) :: ow) := fun p hp => N7 p (.tail _ hp)
    clear N7
    have hOff2 : OwnOff ow [lR, lKid, L1 + 1 + 1 + 1, ka] := own_off N8 hf5 (fun p hp => .tail _ (.tail _ (.tail _ (.tail _ (.tail _ (.tail _ (.tail _ hp))))))) (by
      refine each_cons ?_ (each_cons ?_ (each_cons ?_ (each_cons ?_ each_nil)))
      · exact ⟨_, .head _, .inl rfl⟩
      · exact ⟨_, .tail _ (.head _), .inl rfl⟩
      · exact ⟨_, .tail _ (.tail _ (.tail _ (.head _))), .inr hf6⟩
      · exact ⟨_, .tail _ (.tail _ (.tail _ (.tail _ (.tail _ (.tail _ (.head _)))))), .inl rfl⟩)
    refine shut fun P9 hP9 => ?_
    rcases snoc_cases rs with rfl | ⟨rs, n, rfl⟩
    case inl =>
      refine hP9 ?_
      clear hP9
      refine ite_no ?hb0 ?_
      case hb0 => simp
      k_steps
      refine hQ0 _ _ ?_
      k_steps
      rename Fr g1 L1 _ _ => FE
      rename Fr h₀ _ _ _ => kF
      rename News h₀ _ _ _ => kN
      rw [List.reverse_nil, lrun] at hP1
      obtain ⟨rfl, rfl⟩ := Prod.mk.inj (Option.some.inj hP1)
      refine hret _ _ _ _ kF kN FE.keep ⟨la, lv, lk, kw, kq, ow, rfl, ?_, hf3, hf4, hf5⟩
      ((try dsimp only); (repeat (first | with_reducible exact fun _ h => h | with_reducible exact sub_nil | (with_reducible refine sub_cons ?_ ?_; (focus first | ((repeat (first | with_reducible exact List.mem_cons_self | with_reducible refine List.mem_cons_of_mem _ ?_)); done) | ((repeat (first | with_unfolding_all exact List.Mem.head _ | refine List.Mem.tail _ ?_)); done))) | with_reducible refine sub_skip ?_)))
    case inr =>
      simp only [List.map_append, List.map_cons, List.map_nil] at hf1
      obtain ⟨rw1, rt, rfl, hf1n⟩ := strs_snoc hf1
      rw [List.reverse_append] at hP1
      simp only [List.reverse_cons, List.reverse_nil, List.nil_append, List.cons_append] at hP1
      rw [lrun] at hP1
      by_cases hc : n ≤ 17 ∧ kn.length ≤ 40 ∧ labs.length ≤ 40 ∧ (∀ x ∈ kids, x.length ≤ 700)
      case neg => rw [if_neg hc] at hP1; cases hP1
      rw [if_pos hc] at hP1
      obtain ⟨hc1, hc2, hc3, hc4⟩ := hc
      have hkl1 : (kids.getD (n + 1) []).length ≤ 700 := hc4 _ (mem_getD (by omega))
      have hkl0 : (kids.getD n []).length ≤ 700 := hc4 _ (mem_getD (by omega))
      have hkiv : kiv.length = kids.length := by have := hf2.length; simpa using this
      have hkwl := hf4.length
      have hlvl : lv.length = labs.length := by have := hf3.length; simpa using this
      have hrwl : rw1.length = rs.length := by have := hf1n.length; simpa using this
      have hP3' : rs.length + 1 ≤ 20 := by simpa using hP3
      refine hP9 ?_
      clear hP9
      refine ite_yes ?hb1 ?_
      case hb1 => simp
      refine held fun Q8 hQ8 => ?_
      generalize hlc : Expr.ListComp _ _ _ _ = lc
      k_steps
      rename Fr g1 L1 _ _ => F9
      rename News g1 L1 _ _ => N9
      show wpAny _ _ (call (Value.ref 134) [_]) _ _ _
      refine use_make (by rw [List.length_append, len_tabs]; omega) B1 F9 X1 N9 T1 rfl (by omega) (by omega) ?_
      intro XL four h7 tk7 F10 N10 hk4 hw4
      clear F9 N9
      simp only [List.cons_append] at N10
      have hOff4 : OwnOff four [lR, lKid, L1 + 1 + 1 + 1, ka] := own_off N10 hk4 (fun p hp => by repeat (first | exact List.mem_append.mpr (.inr hp) | refine List.Mem.tail _ ?_)) (by
        refine each_cons ?_ (each_cons ?_ (each_cons ?_ (each_cons ?_ each_nil)))
        · exact ⟨_, .head _, .inl rfl⟩
        · exact ⟨_, .tail _ (.head _), .inl rfl⟩
        · exact ⟨_, .tail _ (.tail _ (.tail _ (.head _))), .inr hf6⟩
        · exact ⟨_, .tail _ (.tail _ (.tail _ (.tail _ (.tail _ (.tail _ (.head _)))))), .inl rfl⟩)
      obtain ⟨vL, hvL⟩ := id hf6
      dsimp only
      k_steps
      rw [← hlc]
      clear hlc lc
      rename (Obj.data _ = Data.cell (some (Value.ref XL))) => d6
      rename Fr g1 L1 _ _ => F11
      rename News g1 L1 _ _ => N11
      rename_i o6 Fz Nz tkE _
      clear Fz Nz
      k_dflt (refine LCt.Assign_ListComp_T (F₀ := F11) (by rfl) (by with_unfolding_all rfl) (by with_unfolding_all rfl) (by decide) (by rfl) (by decide) (by rfl) (by rfl) (by rfl) ?_)
      k_steps
      show LCt.CompSrcT _ _ _ _ _ _ _ _ _ _ _ _ _ _ _
      rename IsRange _ _ _ _ _ _ _ _ => hR2
      rename Fr g1 L1 _ _ => F12
      rename News g1 L1 _ _ => N12
      refine LCt.CompSrcT.range (n := kn.length) (by rfl) F12 N12 hR2 (small_one (by omega) (by omega) (by omega) (by omega)) (by rw [rangeSize_nat]; omega) (by rw [sizeLine_eq]; omega) ?_
      intro g4
      refine comp_invT kn.length (fun i ys news => IntsAre ys (((List.range i).filter fun k => decide (normOf (kn.getD k []) = normOf (kids.getD (n + 1) [] ++ tabs n))).map Int.ofNat) ∧ news = ((lR, listOf rw1.toArray (kr + 1)) :: (lKid, listOf (kiv.set (n + 1) (Value.str (Str.ofString "") tkE)).toArray kki) :: (la, listOf lv.toArray lk) :: (L1 + 1 + 1 + 1, o6) :: (L1 + 1 + 1, o5) :: (L1 + 1, o3) :: (ka, listOf kw.toArray kq) :: (ow ++ four))) ?fin3 ?turn3 kn.length 0 [] _ (by omega) ⟨.nil, rfl⟩
      case turn3 =>
        rintro i ys news v I oI C oC D m2 h3 tk3 E' hi ⟨hy, rfl⟩ ⟨t, rfl⟩ hC hm2 F5 N5 o3f ne3
        obtain ⟨X, hKi, hKw⟩ := hf4.get i hi
        k_steps
        show wpAny _ _ (getMethod _ _ _) _ _ _
        rename Fr g1 L1 _ _ => F8
        rename News g1 L1 _ _ => N9
        refine equal_method F8 X1 (hKw.mono fun a o h => (N9 (a, o) (by repeat (first | exact List.mem_append.mpr (.inl h) | refine List.Mem.tail _ ?_))).1) ?_
        dsimp only
        k_steps
        show wpAny _ _ (call (Value.ref 110) [_, _]) _ _ _
        rename Fr g1 L1 _ _ => F8
        rename News g1 L1 _ _ => N9
        refine use_equal (x := kn.getD i []) (y := kids.getD (n + 1) [] ++ tabs n) (hKw.mono fun a o h => (N9 (a, o) (by repeat (first | exact List.mem_append.mpr (.inl h) | refine List.Mem.tail _ ?_))).1) (hw4.mono fun a o h => (N9 (a, o) (by repeat (first | exact List.mem_append.mpr (.inr h) | refine List.Mem.tail _ ?_))).1) B1 F8 X1 N9 T1 rfl (by omega) (by omega) ?_
        intro h8 tk8 F8 N8
        generalize hp : decide (normOf (kn.getD i []) = normOf (kids.getD (n + 1) [] ++ tabs n)) = bb
        have hfil : ((List.range (i + 1)).filter fun k => decide (normOf (kn.getD k []) = normOf (kids.getD (n + 1) [] ++ tabs n))) = ((List.range i).filter fun k => decide (normOf (kn.getD k []) = normOf (kids.getD (n + 1) [] ++ tabs n))) ++ (if bb = true then [i] else []) := by
          rw [List.range_succ, List.filter_append, ← hp]
          simp only [List.filter_cons, List.filter_nil]
        have e0 : (0 + (i : Int)) = Int.ofNat i := Int.zero_add _
        cases bb with
        | true =>
          k_steps
          rename Fr g1 L1 _ _ => F8
          rename News g1 L1 _ _ => N9
          refine LCg.CompEnd.intro F8 N9 _ (fun _ h => h) o3f trivial ⟨?_, rfl⟩
          rw [hfil, if_pos rfl, List.map_append, e0]
          exact IntsAre.append hy (.cons _ _ .nil)
        | false =>
          k_steps
          rename Fr g1 L1 _ _ => F8
          rename News g1 L1 _ _ => N9
          refine LCg.CompEnd.intro F8 N9 _ (fun _ h => h) o3f trivial ⟨?_, rfl⟩
          rw [hfil, if_neg (by decide), List.append_nil]
          exact hy
      case fin3 =>
      rintro ys news ⟨hy, rfl⟩
      have hher : IntsAre ys ((hereOf kn (kids.getD (n + 1) [] ++ tabs n)).map Int.ofNat) := hy
      clear hy
      intro D h8 tk8 F13 N13 o1g
      simp only [LCg.Off1, and_true] at o1g
      have hk2 : StrsAre (kiv.set (n + 1) (Value.str (Str.ofString "") tkE)) ((kids.set (n + 1) []).map sOf) := kids_set hf2 (n + 1) [] tkE
      have hk2e : (kids.set (n + 1) []).getD n [] = kids.getD n [] := by rw [getD_set _ _ _ _ (by omega), if_neg (by omega)]
      have hk2l : ((kids.set (n + 1) []).getD n []).length ≤ 700 := by rw [hk2e]; exact hkl0
      have hk2s : (kids.set (n + 1) []).length = 20 := by rw [List.length_set]; exact hP2
      have hk2v : (kiv.set (n + 1) (Value.str (Str.ofString "") tkE)).length = 20 := by rw [List.length_set]; omega
      refine shut fun P9 hP9 => ?_
      cases hh : hereOf kn (kids.getD (n + 1) [] ++ tabs n) with
      | nil =>
        rw [hh] at hher hP1
        cases hher
        dsimp only at hP1
        refine hP9 ?_
        clear hP9
        k_steps
        refine hQ8 _ _ ?_
        rename Fr g1 L1 _ _ => F8
        rename News g1 L1 _ _ => N9
        rename_i lN _ lNl _ Fz Nz _ _ _ _ _ _ tE _ _
        clear Fz Nz
        have e7 : sOf ((kids.set (n + 1) []).getD n [] ++ List.replicate kn.length 32 ++ [9]) = sOf (kids.getD n [] ++ lt [kn.length]) := by rw [hk2e, List.append_assoc]; rfl
        rw [e7, List.push_toArray] at N9
        have hq9 : lrun rs.reverse ((kids.set (n + 1) []).set n (kids.getD n [] ++ lt [kn.length])) (kn ++ [kids.getD (n + 1) [] ++ tabs n]) (kn.length :: labs) = some (fx, fl) ∧ ((kids.set (n + 1) []).set n (kids.getD n [] ++ lt [kn.length])).length = 20 ∧ rs.length ≤ 20 ∧ @LT.lt Nat _ (L1 + 1 + 1 + 1) lN ∧ @LT.lt Nat _ ka lN ∧ @Ne Nat lN lR ∧ @Ne Nat lN lKid :=
          ⟨hP1, by rw [List.length_set]; exact hk2s, by omega, by omega, by omega, by omega, by omega⟩
        refine ksw_end ⟨rs, rw1, kr + 1, (kids.set (n + 1) []).set n (kids.getD n [] ++ lt [kn.length]), (kiv.set (n + 1) (Value.str (Str.ofString "") tkE)).set n (.str (sOf (kids.getD n [] ++ lt [kn.length])) tE), kki, kn.length :: labs, lN, .int (kn.length : Nat) (tk8 + 1) :: lv, 0, (kn ++ [kids.getD (n + 1) [] ++ tabs n]), kw ++ [.ref XL], kq + 1, o6, ow ++ four⟩ F8 N9 ?n ⟨hf1n, kids_set hk2 n _ tE, .cons _ _ hf3, Knows.snoc (hf4.mono fun a o h => List.mem_append.mpr (.inl h)) (hw4.mono fun a o h => List.mem_append.mpr (.inr h)), OwnKind.app hf5 hk4, _, d6⟩ ?ps (by ksw_same) hq9 (by simp)
        case n =>
          ((try dsimp only); (repeat (first | with_reducible exact fun _ h => h | with_reducible exact sub_nil | (with_reducible refine sub_cons ?_ ?_; (focus first | ((repeat (first | with_reducible exact List.mem_cons_self | with_reducible refine List.mem_cons_of_mem _ ?_)); done) | ((repeat (first | with_unfolding_all exact List.Mem.head _ | refine List.Mem.tail _ ?_)); done))) | with_reducible refine sub_skip ?_)))
        case ps => intro p hp; simp only [List.mem_cons, List.not_mem_nil, or_false] at hp; subst hp; rfl
      | cons kq1 tq1 =>
        rw [hh] at hher hP1
        have hkq := mem_here.mp (show kq1 ∈ hereOf kn (kids.getD (n + 1) [] ++ tabs n) by rw [hh]; exact .head _)
        simp only [List.map_cons] at hher
        rw [show Int.ofNat kq1 = (kq1 : Int) from rfl] at hher
        have hher0 := hher
        obtain ⟨tkq, ys, rfl, hher⟩ := ints_cons hher
        have hyl3 : ys.length ≤ 40 := by
          have h1 := hher.length
          have h2 := here_len kn (kids.getD (n + 1) [] ++ tabs n)
          rw [hh] at h2
          simp only [List.length_map, List.length_cons] at h1 h2
          omega
        dsimp only at hP1
        refine hP9 ?_
        clear hP9
        k_steps
        refine hQ8 _ _ ?_
        rename Fr g1 L1 _ _ => F8
        rename News g1 L1 _ _ => N9
        rename_i lN _ lNl _ Fz Nz _ _ _ _ _ _ tE _ _
        clear Fz Nz
        have e7 : sOf ((kids.set (n + 1) []).getD n [] ++ List.replicate kq1 32 ++ [9]) = sOf (kids.getD n [] ++ lt [kq1]) := by rw [hk2e, List.append_assoc]; rfl
        rw [e7] at N9
        have hq9 : lrun rs.reverse ((kids.set (n + 1) []).set n (kids.getD n [] ++ lt [kq1])) kn (kq1 :: labs) = some (fx, fl) ∧ ((kids.set (n + 1) []).set n (kids.getD n [] ++ lt [kq1])).length = 20 ∧ rs.length ≤ 20 ∧ @LT.lt Nat _ (L1 + 1 + 1 + 1) lN ∧ @LT.lt Nat _ ka lN ∧ @Ne Nat lN lR ∧ @Ne Nat lN lKid :=
          ⟨hP1, by rw [List.length_set]; exact hk2s, by omega, by omega, by omega, by omega, by omega⟩
        refine ksw_end ⟨rs, rw1, kr + 1, (kids.set (n + 1) []).set n (kids.getD n [] ++ lt [kq1]), (kiv.set (n + 1) (Value.str (Str.ofString "") tkE)).set n (.str (sOf (kids.getD n [] ++ lt [kq1])) tE), kki, kq1 :: labs, lN, .int (kq1 : Nat) tkq :: lv, 0, kn, kw, kq, o6, ow ++ four⟩ F8 N9 ?n ⟨hf1n, kids_set hk2 n _ tE, .cons _ _ hf3, hf4.mono fun a o h => List.mem_append.mpr (.inl h), OwnKind.app hf5 hk4, _, d6⟩ ?ps (by ksw_same) hq9 (by simp)
        case n =>
          ((try dsimp only); (repeat (first | with_reducible exact fun _ h => h | with_reducible exact sub_nil | (with_reducible refine sub_cons ?_ ?_; (focus first | ((repeat (first | with_reducible exact List.mem_cons_self | with_reducible refine List.mem_cons_of_mem _ ?_)); done) | ((repeat (first | with_unfolding_all exact List.Mem.head _ | refine List.Mem.tail _ ?_)); done))) | with_reducible refine sub_skip ?_)))
        case ps => intro p hp; simp only [List.mem_cons, List.not_mem_nil, or_false] at hp; subst hp; rfl
end Mine
end
section
open PySem
namespace Mine
theorem notDot_dot (r : List Nat) : notDot (dotRow r) = notDot r := by
  cases r with
  | nil => rfl
  | cons c r =>
    by_cases h : c = 46
    · subst h; rfl
    · rw [dotRow, if_neg h]
theorem dot_same {r : List Nat} (h : notDot r = true) : dotRow r = r := by
  cases r with
  | nil => rfl
  | cons c r =>
    by_cases hc : c = 46
    · subst hc; simp [notDot] at h
    · rw [dotRow, if_neg hc]
theorem filter_dot : ∀ l : List (List Nat), (l.map dotRow).filter notDot = l.filter notDot
  | [] => rfl
  | r :: l => by
    rw [List.map_cons, List.filter_cons, List.filter_cons, notDot_dot, filter_dot l]
    by_cases h : notDot r = true
    · rw [if_pos h, if_pos h, dot_same h]
    · rw [if_neg h, if_neg h]
theorem rows_filter : ∀ f : Fo, (rowsOf f).filter notDot = marksOf f
  | .nil => rfl
  | .cons k a b => by
    have hk : notDot [opn k, 46] = true := by
      rcases opn_cases k with h | h | h <;> rw [h] <;> decide
    have h1 : notDot [46, 46] = false := by decide
    have h2 : notDot ([] : List Nat) = true := by decide
    rw [rowsOf, marksOf, List.filter_cons, List.filter_cons, List.filter_cons, h1, h2, hk, List.filter_append, filter_dot, rows_filter a, rows_filter b]
    rfl
theorem rows_len : ∀ f : Fo, (rowsOf f).length = 3 * f.size
  | .nil => rfl
  | .cons k a b => by
    simp only [rowsOf, Fo.size, List.length_cons, List.length_append, List.length_map, rows_len a, rows_len b]
    omega
theorem marks_len : ∀ f : Fo, (marksOf f).length = 2 * f.size
  | .nil => rfl
  | .cons k a b => by
    simp only [marksOf, Fo.size, List.length_cons, List.length_append, marks_len a, marks_len b]
    omega
/-- every third row -/
def third : List (List Nat) → List (List Nat)
  | a :: _ :: _ :: r => a :: third r
  | _ => []
theorem third_range : ∀ (m : Nat) (l : List (List Nat)), l.length = 3 * m → (List.range m).map (fun k => l.getD (3 * k) []) = third l
  | 0, l, h => by
    have : l = [] := List.length_eq_zero_iff.mp (by omega)
    subst this; rfl
  | m + 1, l, h => by
    match l, h with
    | a :: b :: c :: r, h =>
      have ih := third_range m r (by simp only [List.length_cons] at h; omega)
      rw [third, ← ih, List.range_succ_eq_map, List.map_cons, List.map_map]
      congr 1
    | [], h => simp at h
    | [_], h => simp at h; omega
    | [_, _], h => simp at h; omega
theorem third_map (g : List Nat → List Nat) : ∀ l : List (List Nat), third (l.map g) = (third l).map g
  | [] => rfl
  | [_] => rfl
  | [_, _] => rfl
  | a :: b :: c :: r => by simp only [List.map_cons, third, third_map g r]
theorem third_app : ∀ (m : Nat) (l r : List (List Nat)), l.length = 3 * m → third (l ++ r) = third l ++ third r
  | 0, l, r, h => by
    have : l = [] := List.length_eq_zero_iff.mp (by omega)
    subst this; rfl
  | m + 1, l, r, h => by
    match l, h with
    | a :: b :: c :: t, h =>
      simp only [List.cons_append, third]
      rw [third_app m t r (by simp only [List.length_cons] at h; omega)]
    | [], h => simp at h
    | [_], h => simp at h; omega
    | [_, _], h => simp at h; omega
theorem rl_pos : ∀ (f : Fo) (d : Nat), ∀ n ∈ rl d f, d ≤ n
  | .nil, _, _, h => nomatch h
  | .cons k a b, d, n, h => by
    rcases List.mem_cons.mp h with rfl | h
    · exact Nat.le_refl _
    · rcases List.mem_append.mp h with h | h
      · have := rl_pos a (d + 1) n h; omega
      · exact rl_pos b d n h
theorem rl_succ : ∀ (f : Fo) (d : Nat), rl (d + 1) f = (rl d f).map (· + 1)
  | .nil, _ => rfl
  | .cons k a b, d => by simp only [rl, rl_succ a, rl_succ b, List.map_cons, List.map_append]
theorem dot_rep {n : Nat} (h : 1 ≤ n) : dotRow (List.replicate n 46) = List.replicate (n + 1) 46 := by
  cases n with
  | zero => omega
  | succ n => rfl
theorem third_rows : ∀ f : Fo, third (rowsOf f) = (rl 2 f).map fun n => List.replicate n 46
  | .nil => rfl
  | .cons k a b => by
    have hx : ((rl 2 a).map fun n => List.replicate n 46).map dotRow = (rl (2 + 1) a).map fun n => List.replicate n 46 := by
      rw [rl_succ a 2, List.map_map, List.map_map]
      refine List.map_congr_left fun n hn => ?_
      exact dot_rep (by have := rl_pos a 2 n hn; omega)
    rw [rowsOf, third, third_app a.size _ _ (by rw [List.length_map, rows_len]), third_map, third_rows a, third_rows b, rl, List.map_cons, List.map_append, hx]
    rfl
theorem thirds (f : Fo) : (List.range ((rowsOf f).length / 3)).map (fun k => (rowsOf f).getD (3 * k) []) = (rl 2 f).map fun n => List.replicate n 46 := by
  rw [← third_rows, rows_len]
  rw [show 3 * f.size / 3 = f.size by omega]
  exact third_range f.size _ (rows_len f)
theorem rowTxt_grow : ∀ rs : List (List Nat), (rowTxt (rs.map dotRow)).length ≤ (rowTxt rs).length + rs.length
  | [] => Nat.le_refl _
  | r :: rs => by
    have h1 := rowTxt_grow rs
    have h2 : (dotRow r).length ≤ r.length + 1 := by
      cases r with
      | nil => exact Nat.zero_le _
      | cons c r => rw [dotRow]; split <;> simp
    simp only [List.map_cons, rowTxt, List.length_append, List.length_cons]
    omega
theorem rlen_step (k : Nat) (a b : Fo) : rlen (.cons k a b) ≤ 10 + rlen a + 3 * a.size + rlen b := by
  have h1 := rowTxt_grow (rowsOf a)
  rw [rows_len] at h1
  simp only [rlen, rowsOf, rowTxt, rowTxt_app, List.length_append, List.length_cons, List.length_nil] at *
  omega
theorem rlen_le : ∀ f : Fo, rlen f ≤ f.size * (10 + 3 * f.size)
  | .nil => Nat.zero_le _
  | .cons k a b => by
    have h1 := rlen_step k a b
    have h2 := rlen_le a
    have h3 := rlen_le b
    simp only [Fo.size]
    have e1 : a.size * (10 + 3 * a.size) = 10 * a.size + 3 * (a.size * a.size) := by rw [Nat.mul_add, Nat.mul_comm a.size 10, Nat.mul_left_comm]
    have e2 : b.size * (10 + 3 * b.size) = 10 * b.size + 3 * (b.size * b.size) := by rw [Nat.mul_add, Nat.mul_comm b.size 10, Nat.mul_left_comm]
    have e3 : (a.size + b.size + 1) * (10 + 3 * (a.size + b.size + 1)) = 10 * (a.size + b.size + 1) + 3 * ((a.size + b.size + 1) * (a.size + b.size + 1)) := by rw [Nat.mul_add, Nat.mul_comm (a.size + b.size + 1) 10, Nat.mul_left_comm]
    have e4 : (a.size + b.size + 1) * (a.size + b.size + 1) = a.size * a.size + 2 * (a.size * b.size) + b.size * b.size + 2 * a.size + 2 * b.size + 1 := by
      simp only [Nat.add_mul, Nat.mul_add, Nat.mul_one, Nat.one_mul, Nat.mul_comm b.size a.size]
      omega
    rw [e3, e4]
    rw [e1] at h2
    rw [e2] at h3
    generalize a.size * a.size = p at *
    generalize b.size * b.size = q at *
    generalize a.size * b.size = r at *
    omega
theorem row_le : ∀ (rs : List (List Nat)), ∀ r ∈ rs, r.length ≤ (rowTxt rs).length
  | [], _, h => nomatch h
  | q :: rs, r, h => by
    simp only [rowTxt, List.length_append, List.length_cons]
    rcases List.mem_cons.mp h with rfl | h
    · omega
    · have := row_le rs r h; omega
theorem marks_ok : ∀ f : Fo, ∀ z ∈ (marksOf f).map sOf, PyData.strOk z = true
  | .nil, _, h => nomatch h
  | .cons k a b, z, h => by
    simp only [marksOf, List.map_cons, List.map_append, List.mem_cons, List.mem_append] at h
    rcases h with rfl | rfl | h | h
    · exact sOf_ok (by intro c hc; cases hc)
    · refine sOf_ok (by intro c hc; simp only [List.mem_cons, List.not_mem_nil, or_false] at hc; rcases hc with rfl | rfl; exact opn_lt k; decide)
    · exact marks_ok a z h
    · exact marks_ok b z h
theorem txt_br : ∀ f : Fo, ∀ c ∈ f.txt, isBr c
  | .nil, _, h => nomatch h
  | .cons k a b, c, h => by
    simp only [Fo.txt, List.mem_cons, List.mem_append] at h
    rcases h with rfl | h | rfl | h
    · rcases opn_cases k with h | h | h <;> simp [isBr, h]
    · exact txt_br a c h
    · rcases cls_or k with h | h | h <;> simp [isBr, h]
    · exact txt_br b c h
end Mine
end
section
open PySem PySem.W PySem.Calls PyProof.Rows
set_option maxRecDepth 100000
namespace Mine
theorem pile_congr {e e' : Nat → List Nat} (h : ∀ i, i < 10 → e i = e' i) : ∀ (x : List Nat) (p m : List (List Nat)), pileRun e x p m = pileRun e' x p m
  | [], p, m => rfl
  | c :: r, p, m => by
    have ih := pile_congr h r
    conv => lhs; unfold pileRun
    conv => rhs; unfold pileRun
    by_cases hc : c = 40 ∨ c = 91 ∨ c = 123
    · simp only [hc, if_true]
      by_cases hm : m.length < 20
      · simp only [hm, if_true]
        rw [h _ (by omega), ih]
      · simp only [hm, if_false]
    · simp only [hc, if_false]
      match p with
      | [] => rfl
      | [_] => rfl
      | b :: q :: p' => simp only [ih]
theorem Tell.mono {w : World} {mean : ExcName → Option Value} {mg mb : PySem.Str → Option Value} {f : Addr} {size usize : Nat} {args : List Value} {mt : List (Addr × Obj)} {Pre : Heap → Prop} {Post Post' : Heap → List (Addr × Obj) → Value → Prop}
    (C : Tell w mean mg mb f size usize args mt Pre Post) (h : ∀ h n r, Post h n r → Post' h n r) : Tell w mean mg mb f size usize args mt Pre Post' := by
  unfold Tell at *
  intro dp un gd cn cs a ccd cl outer A₀ base h₀ L m s Q E B F X N T hk hd hu hpre hret
  exact C dp un gd cn cs a ccd cl outer A₀ base h₀ L m s Q E B F X N T hk hd hu hpre fun r news' h' tk' F' N' st hp => hret r news' h' tk' F' N' st (h _ _ _ hp)
theorem lrun_short : ∀ (r : List Nat) (kids kn : List (List Nat)) (labels : List Nat) (kn' : List (List Nat)) (labs : List Nat), lrun r kids kn labels = some (kn', labs) → ∀ x ∈ kn', x ∈ kn ∨ x.length ≤ 740
  | [], _, kn, labels, kn', labs, h => by
    rw [lrun] at h
    obtain ⟨rfl, rfl⟩ := Prod.mk.inj (Option.some.inj h)
    exact fun x hx => .inl hx
  | n :: r, kids, kn, labels, kn', labs, h => by
    rw [lrun] at h
    by_cases hc : n ≤ 17 ∧ kn.length ≤ 40 ∧ labels.length ≤ 40 ∧ (∀ x ∈ kids, x.length ≤ 700)
    · rw [if_pos hc] at h
      cases hh : hereOf kn (kids.getD (n + 1) [] ++ tabs n) with
      | cons k t =>
        rw [hh] at h
        exact lrun_short r _ kn _ kn' labs h
      | nil =>
        rw [hh] at h
        intro x hx
        rcases lrun_short r _ _ _ kn' labs h x hx with hx | hx
        · rcases List.mem_append.mp hx with hx | hx
          · exact .inl hx
          · right
            rw [List.mem_singleton.mp hx, List.length_append, len_tabs]
            have : (kids.getD (n + 1) []).length ≤ 700 := by
              by_cases hk : n + 1 < kids.length
              · exact hc.2.2.2 _ (mem_getD hk)
              · simp [List.getD_eq_getElem?_getD, List.getElem?_eq_none (Nat.le_of_not_lt hk)]
            omega
        · exact .inr hx
    · rw [if_neg hc] at h
      cases h
theorem labels_fo (w : World) (mean mg mb) (f : Fo) (hf : f.fits) (h1 : 1 ≤ f.size) (h10 : f.size ≤ 10) (xt : Tok) (ea ka : Addr) (ev : List Value) (es : List (List Nat)) (kv : List Value) (kk : Nat) (own : List (Addr × Obj)) (kx : List (List Nat)) (N : List Int) (hkn : Knows (fun a o => (a, o) ∈ own) kv kx) (hok : OwnKind own)
    (he : StrsAre ev (es.map sOf)) (hl : es.length = 10) (hend : ∀ e ∈ es, isEnd e) (I : Inv kx N) (hkx : kx.length ≤ 29) :
    Tell w mean mg mb 162 6 400 [.str (sOf f.txt) xt, .ref ea, .ref ka] ((ka, listOf kv.toArray kk) :: own) (fun g => g.IsList ea ev.toArray)
      (fun _ news' r => ∃ (a : Addr) (lv : List Value) (k : Nat) (kv' : List Value) (kk' : Nat) (own' : List (Addr × Obj)) (kx' : List (List Nat)) (N' : List Int) (labs : List Nat), r = .ref a ∧ (∀ p ∈ (a, listOf lv.toArray k) :: (ka, listOf kv'.toArray kk') :: own', p ∈ news') ∧
        IntsAre lv (labs.map Int.ofNat) ∧ Knows (fun a o => (a, o) ∈ own') kv' kx' ∧ OwnKind own' ∧ Inv kx' N' ∧ N <+: N' ∧ (∀ l ∈ labs, l < N'.length) ∧ (labs.map fun l => N'.getD l 0) = f.num :: f.pre ∧ kx'.length ≤ kx.length + f.size + 1 ∧ ∀ x ∈ kx', x ∈ kx ∨ x.length ≤ 740) := by
  obtain ⟨kx', N', labs, q1, q2, q3, _, q5, q6, q7⟩ := lrun_text hf I h10 hkx
  have hrl : rlen f ≤ 400 := by
    have h2 := rlen_le f
    have h3 : f.size * (10 + 3 * f.size) ≤ 10 * (10 + 3 * 10) := Nat.mul_le_mul h10 (by omega)
    omega
  have hpile : pileRun (fun i => es.getD i []) f.txt [[]] [] = some ([rowTxt (rowsOf f)], marksOf f) := by
    rw [pile_congr (e' := fun i => es.getD i [10]) (fun i hi => by
      have : i < es.length := by omega
      simp [List.getD_eq_getElem?_getD, this])]
    refine pile_all (fun i => ?_) f hrl h10
    show isEnd (es.getD i [10])
    by_cases hi : i < es.length
    · rw [show es.getD i [10] = es[i] by simp [List.getD_eq_getElem?_getD, hi]]
      exact hend _ (List.getElem_mem hi)
    · rw [show es.getD i [10] = [10] by simp [List.getD_eq_getElem?_getD, List.getElem?_eq_none (Nat.le_of_not_lt hi)]]
      exact .inl rfl
  have hlen := Fo.len_txt f
  have hrows := rows_len f
  refine (labels_tell w mean mg mb f.txt xt ea ka ev es kv kk own kx hkn hok he hl (fun e h => ?_) (by omega) (rowTxt (rowsOf f)) (marksOf f) (txt_br f) hpile (rowsOf f) rfl (rows_clean f) (fun e => ?_) (by omega) (fun r hr => Nat.le_trans (row_le _ r hr) hrl) (rows_filter f) (marks_ok f) (by rw [hrows, marks_len]; omega) (rl 2 f) (thirds f) (Nat.le_trans hrl (by decide)) kx' labs q1).mono ?_
  · rcases hend e h with h | h | h <;> rw [h] <;> decide
  · rw [e] at hrows
    simp at hrows
    omega
  · rintro h n r ⟨a, lv, k, kv', kk', own', e1, e2, e3, e4, e5⟩
    exact ⟨a, lv, k, kv', kk', own', kx', N', labs, e1, e2, e3, e4, e5, q2, q3, q5, q6, q7, lrun_short _ _ _ _ _ _ q1⟩
end Mine
end
section
open PySem PySem.W PySem.Calls PyProof.Rows
set_option maxRecDepth 100000
namespace Mine
section
variable {prog : Program} {w : World} {A : Around} {E : Value → Shared → Prop} {s : Shared} {env : Env} {h₀ : Heap} {body : List Stmt} {Q : Flow → Shared → Prop}
/-- a loop over a zip of two lists -/
theorem zl_loop {elts : List Expr} {k : Nat} {pos : Pos} {l1 l2 : Addr} {xs ys : List Value} {m₀ : PySem.Str → Option Value} {news : List (Addr × Obj)} (hh : A.handled = none)
    (F : Fr h₀ env.locals s.heap m₀) (N : News h₀ env.locals s.heap news) (hl1 : s.heap.IsList l1 xs.toArray) (hl2 : s.heap.IsList l2 ys.toArray) (hL1 : env.locals ≠ l1) (hL2 : env.locals ≠ l2) (hn1 : ∀ p ∈ news, p.1 ≠ l1) (hn2 : ∀ p ∈ news, p.1 ≠ l2)
    (J : Nat → (PySem.Str → Option Value) → List (Addr × Obj) → Prop) (hj : J 0 m₀ news)
    (turn : ∀ i x y T m₁ nx h tk own, xs[i]? = some x → ys[i]? = some y → IsTup h T #[x, y] → nx.map (·.1) = news.map (·.1) → OwnOff own (news.map (·.1)) → J i m₁ nx → Fr h₀ env.locals h m₁ → News h₀ env.locals h (nx ++ own) →
      wpAny (model prog w) A (assign (.Tuple elts k pos) env (.ref T)) (fun _ s₃ => wpAny (model prog w) A (execs body env) (InvPostN h₀ env.locals (J (i + 1)) own (news.map (·.1)) { s with heap := h, toks := tk } Q) E s₃) E { s with heap := h, toks := tk })
    (done : ∀ m₁ nx h tk, J (min xs.toArray.size ys.toArray.size) m₁ nx → nx.map (·.1) = news.map (·.1) → Fr h₀ env.locals h m₁ → News h₀ env.locals h nx → Q .next { s with heap := h, toks := tk }) :
    wpAny (model prog w) A (call (.type "zip") [.ref l1, .ref l2]) (fun xv s₁ => wpAny (model prog w) A (pyIter xv) (fun it s₂ => TurnsAt prog w A h₀ env (.Tuple elts k pos) body Q E it s₂) E s₁) E s := by
  have hl1lt : l1 < s.heap.objs.size := by obtain ⟨o, e, _⟩ := hl1; exact Heap.lt_size e
  have hl2lt : l2 < s.heap.objs.size := by obtain ⟨o, e, _⟩ := hl2; exact Heap.lt_size e
  have hLlt : env.locals < s.heap.objs.size := F.ns.lt
  have hnlt : ∀ p ∈ news, p.1 < s.heap.objs.size := fun p hp => Heap.lt_size (N p hp).1
  have D : ZipApart (s.heap.objs.size + 4) (s.heap.objs.size + 2) (s.heap.objs.size + 3) s.heap.objs.size (s.heap.objs.size + 1) l1 l2 := ktu_apart _ _ _ hl1lt hl2lt
  refine call_zip_2 hl1 hl2 fun h6 hz hTI hTO hi1 hi2 hsz hk6 => ?_
  refine wpAny_pyIter_zip hz ?_
  have ne0 : ∀ {a : Nat} (j : Nat), a < s.heap.objs.size → a ≠ s.heap.objs.size + j := fun j h => Nat.ne_of_lt (Nat.lt_of_lt_of_le h (Nat.le_add_right _ _))
  have F6 : Fr h₀ env.locals h6 m₀ := F.keeps hk6
  have N6 : News h₀ env.locals h6 news := N.grown hk6
  have new0 : ∀ j : Nat, h₀.get? (s.heap.objs.size + j) = none := fun j => Heap.get?_none_of_le (Nat.le_trans F.above (Nat.le_trans (Nat.le_of_lt hLlt) (Nat.le_add_right _ _)))
  refine turns_inv (KTurns.ofWalksU (WalksT.zip2 hh _ _ _ _ _ _ _ D xs.toArray ys.toArray).toU) ?_ ?_ ?_ ⟨hz, hTI, ⟨_, _, hTO⟩, hi1, hi2, hl1.at fun o e => hk6 l1 o e, hl2.at fun o e => hk6 l2 o e⟩ F6 N6 J hj ?_ ?_
  · intro hm
    simp only [List.mem_cons, List.not_mem_nil, or_false] at hm
    rcases hm with e | e | e | e | e | e | e
    · exact ne0 4 hLlt e
    · exact ne0 2 hLlt e
    · exact ne0 3 hLlt e
    · exact ne0 0 hLlt e
    · exact ne0 1 hLlt e
    · exact hL1 e
    · exact hL2 e
  · intro b hb
    simp only [List.mem_cons, List.not_mem_nil, or_false] at hb
    rcases hb with rfl | rfl | rfl | rfl
    · exact new0 4
    · exact new0 3
    · exact new0 0
    · exact new0 1
  · intro p hp hm
    have hlt := hnlt p hp
    simp only [List.mem_cons, List.not_mem_nil, or_false] at hm
    rcases hm with e | e | e | e | e | e | e
    · exact ne0 4 hlt e
    · exact ne0 2 hlt e
    · exact ne0 3 hlt e
    · exact ne0 0 hlt e
    · exact ne0 1 hlt e
    · exact hn1 p hp e
    · exact hn2 p hp e
  · rintro i v m₁ nx h tk own hi ⟨T, vals, rfl, ⟨x, y, hx, hy, rfl⟩, hT⟩ ha hoff hJ F₁ N₁
    exact turn i x y T m₁ nx h tk own (by simpa using hx) (by simpa using hy) hT ha hoff hJ F₁ N₁
  · exact done
end
end Mine
end
section
namespace Mine
def Bn : Nat → Int
  | 0 => 1
  | 1 => 2
  | 2 => 4
  | 3 => 8
  | 4 => 19
  | _ => 67
theorem pr_mono : ∀ i, i < 19 → ∀ j, j < 19 → i ≤ j → PR.getD i 1 ≤ PR.getD j 1 := by decide +kernel
theorem prm_mono {m n : Int} (h1 : 1 ≤ m) (h : m ≤ n) (h2 : n ≤ 19) : prm m ≤ prm n := by
  obtain ⟨i, hi, rfl⟩ := small_nat ⟨h1, by omega⟩
  obtain ⟨j, hj, rfl⟩ := small_nat (x := n) ⟨by omega, h2⟩
  rw [prm_at hi, prm_at hj]
  exact pr_mono i hi j hj (by omega)
theorem Bn_low : ∀ i, i < 5 → Bn i ≤ 19 ∧ 1 ≤ Bn i := by decide +kernel
theorem Bn_step : ∀ i, i < 5 → ∀ j, j < 5 → i + j < 5 → prm (Bn i) * Bn j ≤ Bn (i + j + 1) := by decide +kernel
theorem num_le : ∀ f : Fo, f.size ≤ 5 → f.num ≤ Bn f.size ∧ f.fits
  | .nil, _ => ⟨by decide, trivial⟩
  | .cons k a b, h => by
    simp only [Fo.size] at h ⊢
    obtain ⟨a1, a2⟩ := num_le a (by omega)
    obtain ⟨b1, b2⟩ := num_le b (by omega)
    have ha := Bn_low a.size (by omega)
    have hp := a.num_pos
    have hq := b.num_pos
    refine ⟨?_, by omega, a2, b2⟩
    have h1 := prm_mono hp a1 ha.1
    have h2 := prm_pos a.num
    have h3 : prm a.num * b.num ≤ prm (Bn a.size) * Bn b.size := Int.mul_le_mul h1 b1 (by omega) (by omega)
    exact Int.le_trans h3 (Bn_step a.size (by omega) b.size (by omega) (by omega))
theorem five {f : Fo} (h : f.size = 5) : f.num ≤ 67 ∧ f.fits := by
  have := num_le f (by omega)
  rw [h] at this
  exact this
theorem five_run {f : Fo} (h : f.size = 5) : run (f.txt ++ [32]) [] [] [255] = some (f.num :: f.pre) := run_all f (five h).2
theorem two_num {f : Fo} (hf : f.fits) (h : 1 ≤ f.size) : 2 ≤ f.num := by
  cases f with
  | nil => simp [Fo.size] at h
  | cons k a b =>
    have h1 := prm_two ⟨a.num_pos, hf.1⟩
    have h2 := b.num_pos
    have := Int.mul_le_mul h1 h2 (by omega) (by omega)
    simpa [Fo.num] using this
theorem five_two {f : Fo} (h : f.size = 5) : 2 ≤ f.num := two_num (five h).2 (by omega)
theorem W_pos : ∀ n, n < 68 → 2 ≤ n → 1 ≤ (W n).size := by decide +kernel
end Mine
end
section
open PySem PySem.W PySem.Calls PyProof.Rows
set_option maxRecDepth 100000
namespace Mine
theorem ints_first {vs : List Value} {ns : List Int} {k : Nat} (h : IntsAre vs ns) (hl : k + 1 ≤ ns.length) : ∃ a t ws ms, vs = .int a t :: ws ∧ IntsAre ws ms ∧ k ≤ ms.length := by
  match ns, h with
  | [], _ => simp at hl
  | n :: ns, h =>
    obtain ⟨t, ws, rfl, h'⟩ := ints_cons h
    exact ⟨n, t, ws, ns, rfl, h', by simpa using hl⟩
theorem ints_ten {vs : List Value} {ns : List Int} (h : IntsAre vs ns) (hl : 10 ≤ ns.length) : ∃ (a0 a1 a2 a3 a4 a5 a6 a7 a8 a9 : Int) (t0 t1 t2 t3 t4 t5 t6 t7 t8 t9 : Tok) (ws : List Value),
    vs = [.int a0 t0, .int a1 t1, .int a2 t2, .int a3 t3, .int a4 t4, .int a5 t5, .int a6 t6, .int a7 t7, .int a8 t8, .int a9 t9] ++ ws := by
  refine shut fun P9 hP9 => ?_
  obtain ⟨a0, t0, w0, n0, e0, h0, l0⟩ := ints_first (k := 9) h hl
  obtain ⟨a1, t1, w1, n1, e1, h1, l1⟩ := ints_first (k := 8) h0 l0
  obtain ⟨a2, t2, w2, n2, e2, h2, l2⟩ := ints_first (k := 7) h1 l1
  obtain ⟨a3, t3, w3, n3, e3, h3, l3⟩ := ints_first (k := 6) h2 l2
  obtain ⟨a4, t4, w4, n4, e4, h4, l4⟩ := ints_first (k := 5) h3 l3
  obtain ⟨a5, t5, w5, n5, e5, h5, l5⟩ := ints_first (k := 4) h4 l4
  obtain ⟨a6, t6, w6, n6, e6, h6, l6⟩ := ints_first (k := 3) h5 l5
  obtain ⟨a7, t7, w7, n7, e7, h7, l7⟩ := ints_first (k := 2) h6 l6
  obtain ⟨a8, t8, w8, n8, e8, h8, l8⟩ := ints_first (k := 1) h7 l7
  obtain ⟨a9, t9, w9, n9, e9, h9, l9⟩ := ints_first (k := 0) h8 l8
  rw [e9] at e8; rw [e8] at e7; rw [e7] at e6; rw [e6] at e5; rw [e5] at e4; rw [e4] at e3; rw [e3] at e2; rw [e2] at e1; rw [e1] at e0
  exact hP9 ⟨a0, a1, a2, a3, a4, a5, a6, a7, a8, a9, t0, t1, t2, t3, t4, t5, t6, t7, t8, t9, w9, e0⟩
def PRv (t : Tok) : List Value := [.int 2 t, .int 3 (t + 1), .int 5 (t + 1 + 1), .int 7 (t + 1 + 1 + 1), .int 11 (t + 1 + 1 + 1 + 1), .int 13 (t + 1 + 1 + 1 + 1 + 1), .int 17 (t + 1 + 1 + 1 + 1 + 1 + 1), .int 19 (t + 1 + 1 + 1 + 1 + 1 + 1 + 1), .int 23 (t + 1 + 1 + 1 + 1 + 1 + 1 + 1 + 1), .int 29 (t + 1 + 1 + 1 + 1 + 1 + 1 + 1 + 1 + 1), .int 31 (t + 1 + 1 + 1 + 1 + 1 + 1 + 1 + 1 + 1 + 1), .int 37 (t + 1 + 1 + 1 + 1 + 1 + 1 + 1 + 1 + 1 + 1 + 1), .int 41 (t + 1 + 1 + 1 + 1 + 1 + 1 + 1 + 1 + 1 + 1 + 1 + 1), .int 43 (t + 1 + 1 + 1 + 1 + 1 + 1 + 1 + 1 + 1 + 1 + 1 + 1 + 1), .int 47 (t + 1 + 1 + 1 + 1 + 1 + 1 + 1 + 1 + 1 + 1 + 1 + 1 + 1 + 1), .int 53 (t + 1 + 1 + 1 + 1 + 1 + 1 + 1 + 1 + 1 + 1 + 1 + 1 + 1 + 1 + 1), .int 59 (t + 1 + 1 + 1 + 1 + 1 + 1 + 1 + 1 + 1 + 1 + 1 + 1 + 1 + 1 + 1 + 1), .int 61 (t + 1 + 1 + 1 + 1 + 1 + 1 + 1 + 1 + 1 + 1 + 1 + 1 + 1 + 1 + 1 + 1 + 1), .int 67 (t + 1 + 1 + 1 + 1 + 1 + 1 + 1 + 1 + 1 + 1 + 1 + 1 + 1 + 1 + 1 + 1 + 1 + 1)]
theorem prv_ints (t : Tok) : IntsAre (PRv t) PR := by
  unfold PRv PR
  repeat (first | exact IntsAre.nil | refine IntsAre.cons _ _ ?_)
end Mine
end
section
open PySem PySem.W PySem.Calls PyProof.Rows
set_option maxRecDepth 100000
namespace Mine
section
variable {w : World} {mean : ExcName → Option Value} {mg mb : PySem.Str → Option Value}
  {dp un : Nat} {gd : Option (List Code)} {cn : PySem.Str} {cs : Scope} {a : Addr} {ccd : Value} {cl : List (PySem.Str × Addr)} {outer : List Env} {A₀ : Around} {base h₀ : Heap} {L : Addr} {m : PySem.Str → Option Value} {s : Shared} {news : List (Addr × Obj)}
  {Q E : Value → Shared → Prop}
theorem use_drawn {l : Addr} {vs : List Value} {ns : List Int} (hi : IntsAre vs ns) (hl : ns.length = 5) (hL : s.heap.IsList l vs.toArray) (B : Below A₀ base outer h₀) (F : Fr h₀ L s.heap m) (X : (hd.heap_39 w.params).In h₀) (N : News h₀ L s.heap news)
    (T : Top hd.view_39 (looseW hd.view_39 [Str.ofString "EXACT_TOKEN_TYPES", Str.ofString "_twin_re_1", Str.ofString "_twin_re_2", Str.ofString "Whitespace"]) mean mg mb h₀) (hk : cs.kind = .function) (hd1 : dp + 1 < recursionLimit) (hu : un + 100 < cLine)
    (ret : ∀ (f : Fo) (t : Tok) h' tk', f.ok → f.size = 5 → Fr h₀ L h' m → News h₀ L h' news → Q (.str (sOf f.txt) t) { s with heap := h', toks := tk' }) :
    wpAny (model PySem.Challenge.rw_rw0103_01.row.prog w) (ktrTop dp un gd cn cs L a ccd cl outer) (call (.ref 145) [.ref l]) Q E s := by
  refine use_pure (drawn_tell w mean mg mb l vs ns hi (by omega)) B F X N T hk hd1 hu hL fun r tl h' tk' F' N' _ _ hp => ?_
  obtain ⟨f, t, h1, h2, rfl⟩ := hp
  exact ret f t h' tk' h1 (by omega) F' (fun p hp => N' p (List.mem_append.mpr (.inr hp)))
theorem use_told {x : List Nat} {xt : Tok} {lp : Addr} {pv : List Value} {res : List Int} (hl : x.length ≤ 20) (hb : ∀ c ∈ x, isBr c) (hi : IntsAre pv PR) (hrun : run (x ++ [32]) [] [] [255] = some res) (hL : s.heap.IsList lp pv.toArray) (B : Below A₀ base outer h₀) (F : Fr h₀ L s.heap m) (X : (hd.heap_39 w.params).In h₀) (N : News h₀ L s.heap news)
    (T : Top hd.view_39 (looseW hd.view_39 [Str.ofString "EXACT_TOKEN_TYPES", Str.ofString "_twin_re_1", Str.ofString "_twin_re_2", Str.ofString "Whitespace"]) mean mg mb h₀) (hk : cs.kind = .function) (hd1 : dp + 5 < recursionLimit) (hu : un + 100 < cLine)
    (ret : ∀ (b : Addr) (rv : List Value) (k : Nat) h' tk', IntsAre rv res → Fr h₀ L h' m → News h₀ L h' ((b, listOf rv.toArray k) :: news) → (∀ p ∈ news, @Ne Nat b p.1) → Q (.ref b) { s with heap := h', toks := tk' }) :
    wpAny (model PySem.Challenge.rw_rw0103_01.row.prog w) (ktrTop dp un gd cn cs L a ccd cl outer) (call (.ref 150) [.str (sOf x) xt, .ref lp]) Q E s := by
  refine use_pure (told_tell w mean mg mb s.heap x xt lp pv res hl hb hi hrun) B F X N T hk hd1 hu ⟨hL, fun _ _ e => e⟩ fun r tl h' tk' F' N' _ _ hp => ?_
  obtain ⟨b, rv, k, rfl, h2, h3, h4⟩ := hp
  refine ret b rv k h' tk' h3 F' (fun p hp => ?_) fun p hp e => by
    have h5 := (N p hp).1
    rw [← (show b = p.1 from e), h4] at h5
    cases h5
  rcases List.mem_cons.mp hp with rfl | hp
  · exact N' _ (List.mem_append.mpr (.inl h2))
  · exact N' p (List.mem_append.mpr (.inr hp))
theorem use_written {n : Nat} {nt : Tok} {lp : Addr} {pv : List Value} (hi : IntsAre pv PR) (h1 : 1 ≤ n) (h67 : n < 68) (hL : s.heap.IsList lp pv.toArray) (B : Below A₀ base outer h₀) (F : Fr h₀ L s.heap m) (X : (hd.heap_39 w.params).In h₀) (N : News h₀ L s.heap news)
    (T : Top hd.view_39 (looseW hd.view_39 [Str.ofString "EXACT_TOKEN_TYPES", Str.ofString "_twin_re_1", Str.ofString "_twin_re_2", Str.ofString "Whitespace"]) mean mg mb h₀) (hk : cs.kind = .function) (hd1 : dp + 70 < recursionLimit) (hu : un + 800 < cLine)
    (ret : ∀ (t : Tok) h' tk', Fr h₀ L h' m → News h₀ L h' news → Q (.str (sOf (W n).txt) t) { s with heap := h', toks := tk' }) :
    wpAny (model PySem.Challenge.rw_rw0103_01.row.prog w) (ktrTop dp un gd cn cs L a ccd cl outer) (call (.ref 157) [.int (n : Int) nt, .ref lp]) Q E s := by
  refine use_pure (written_tell w mean mg mb lp pv hi n h1 h67 nt) B F X N T hk (by omega) (by omega) hL fun r tl h' tk' F' N' _ _ hp => ?_
  obtain ⟨t, rfl⟩ := hp
  exact ret t h' tk' F' (fun p hp => N' p (List.mem_append.mpr (.inr hp)))
end
end Mine
end
section
open PySem PySem.W PySem.Calls PyProof.Rows
set_option maxRecDepth 100000
namespace Mine
theorem News.subL {g h : Heap} {L : Addr} {led l : List (Addr × Obj)} (N : News g L h led) (hs : SubL l led) : News g L h l := fun p hp => N p (hs.mem p hp)
theorem ne_two {g h : Heap} {L a b : Addr} {led : List (Addr × Obj)} {o p : Obj} (N : News g L h led) (ha : (a, o) ∈ led) (hb : (b, p) ∈ led) (hop : o.data ≠ p.data) : @Ne Nat a b := by
  intro e
  have h1 := (N _ ha).1
  have h2 := (N _ hb).1
  dsimp only at h1 h2
  rw [show a = b from e, h2] at h1
  exact hop (congrArg Obj.data (Option.some.inj h1.symm))
theorem ne_cell {g h : Heap} {L a b : Addr} {led : List (Addr × Obj)} {p : Obj} {vs : Array Value} {k : Nat} {v : Option Value} (N : News g L h led) (ha : (a, listOf vs k) ∈ led) (hb : (b, p) ∈ led) (hd : p.data = .cell v) : @Ne Nat a b :=
  ne_two N ha hb (by rw [hd]; intro e; cases e)
section
variable {prog : Program} {w : World} {A : Around} {E : Value → Shared → Prop} {s : Shared} {Q : Value → Shared → Prop}
theorem ints_canLay0 (xs : List Int) : PyData.canLay0 (.list (xs.map PyData.int)) = true := by
  simp [PyData.canLay0, ints_canLay]
theorem in_told {e l b1 b2 : Addr} {rv1 rv2 : List Value} {n1 n2 : Int} {r1 r2 : List Int} (he : s.heap.IsList e (List.toArray [])) (hl : s.heap.IsList l (List.toArray [.ref b1, .ref b2])) (h1 : s.heap.IsList b1 rv1.toArray) (h2 : s.heap.IsList b2 rv2.toArray) (i1 : IntsAre rv1 (n1 :: r1)) (i2 : IntsAre rv2 (n2 :: r2)) (hu : A.units + 70 < cLine) (h : Q (.bool false) s) :
    wpAny (model prog w) A (compareOp .In (.ref e) (.ref l)) Q E s := by
  obtain ⟨o, ho, hc, n, hd⟩ := hl
  have rc : Reads s.heap (.ref l) (.list [.list ((n1 :: r1).map .int), .list ((n2 :: r2).map .int)]) _ := reads_list_at ho hc hd (.cons (reads_newData h1 i1.carried) (.cons (reads_newData h2 i2.carried) .nil))
  have rx : Reads s.heap (.ref e) (.list (([] : List Int).map .int)) _ := reads_newData he (IntsAre.carried .nil)
  refine SeqAt.in_list_reads rc rx (by simp [PyData.canLayAll0, PyData.canLay0, ints_canLay]) (ints_canLay0 []) ?_ ?_
  · simp only [PyData.depthAll, PyData.depth, ints_depth, List.map_nil]
    omega
  · simpa [PyData.eqv, PyData.eqvAll] using h
end
end Mine
namespace Mine
section
variable {prog : Program} {w : World} {A : Around} {E : Value → Shared → Prop} {s : Shared} {Q : Value → Shared → Prop}
theorem item_v {value slice : PySem.Expr} {l : Addr} {vs : List Value} {v : Value} {k : Int} {u : Tok} (hl : s.heap.IsList l vs.toArray) (h0 : 0 ≤ k) (hfit : k < 2 ^ 63) (hv : vs[k.toNat]? = some v) (h : Q v s)
    (hs : subscripted slice false (.ref l) (.int k u) = operate [.ref l, .int k u] (getItem (.ref l) (.int k u)) := by with_unfolding_all rfl) :
    wpAny (model prog w) A (subscriptTail value slice (.ref l) (.int k u)) Q E s :=
  tail_any hl.typeIs slot_list_getitem.lookup (wpAny_getItem_list hl h0 hfit (by simpa using hv) h) hs
theorem ends_item {value slice : PySem.Expr} {l : Addr} {k : Int} {u t1 t2 t3 : Tok} (hl : s.heap.IsList l #[.str (Str.ofString "\n") t1, .str (Str.ofString "\r") t2, .str (Str.ofString "\r\n") t3]) (h0 : 0 ≤ k) (h3 : k < 3) (h : ∀ e t, isEnd e → Q (.str (sOf e) t) s)
    (hs : subscripted slice false (.ref l) (.int k u) = operate [.ref l, .int k u] (getItem (.ref l) (.int k u)) := by with_unfolding_all rfl) :
    wpAny (model prog w) A (subscriptTail value slice (.ref l) (.int k u)) Q E s := by
  have hk : k = 0 ∨ k = 1 ∨ k = 2 := by omega
  have hl' : s.heap.IsList l (List.toArray [.str (Str.ofString "\n") t1, .str (Str.ofString "\r") t2, .str (Str.ofString "\r\n") t3]) := hl
  rcases hk with rfl | rfl | rfl
  · exact item_v hl' (by decide) (by decide) rfl (h [10] t1 (by unfold isEnd; simp)) hs
  · exact item_v hl' (by decide) (by decide) rfl (h [13] t2 (by unfold isEnd; simp)) hs
  · exact item_v hl' (by decide) (by decide) rfl (h [13, 10] t3 (by unfold isEnd; simp)) hs
end
end Mine
end
section
open PySem PySem.W PySem.Calls PyProof.Rows
set_option maxRecDepth 100000
namespace Mine
theorem Fr.of_eq {g h : Heap} {L : Addr} {m m' : PySem.Str → Option Value} (F : Fr g L h m) (e : ∀ z, m z = m' z) : Fr g L h m' := (funext e : m = m') ▸ F
section
variable {prog : Program} {w : World} {A : Around} {E : Value → Shared → Prop} {s : Shared} {env : Env} {h₀ : Heap} {target : Expr} {body : List Stmt} {Q : Flow → Shared → Prop}
/-- the turns over a list, by a word over names and ledger; the ledger may grow -/
theorem items_inv {vs : List Value} {I : Addr} {keep : List (Addr × Obj)} (J : Nat → (PySem.Str → Option Value) → List (Addr × Obj) → Prop)
    (turn : ∀ i v o' m news h tk, vs[i]? = some v → o'.cls = .type "list_iterator" → J i m news → Fr h₀ env.locals h m → News h₀ env.locals h ((I, o') :: news) →
      wpAny (model prog w) A (assign target env v) (fun _ s₂ => wpAny (model prog w) A (execs body env) (UnrPostW h₀ env.locals { s with heap := h, toks := tk } [(I, o')] (fun m' n' => SubL keep n' ∧ J (i + 1) m' n') Q) E s₂) E { s with heap := h, toks := tk })
    (done : ∀ m news h tk, J vs.length m news → Fr h₀ env.locals h m → News h₀ env.locals h news → Q .next { s with heap := h, toks := tk }) :
    ∀ k i m news, i + k = vs.length → J i m news → ItemsRest prog w A E h₀ env target body Q s [(I, "list_iterator")] keep ((vs.drop i).map .val) m news
  | 0, i, m, news, hk, hJ => by
    have e : i = vs.length := by omega
    subst e
    rw [List.drop_length]
    exact ItemsRest.zero fun h tk F N => done _ _ h tk hJ F N
  | k + 1, i, m, news, hk, hJ => by
    have hi : i < vs.length := by omega
    rw [List.drop_eq_getElem_cons hi]
    refine ItemsRest.val fun h tk F => AllObj.cons fun o' hc => AllObj.nil fun N => ?_
    refine wpAny_mono (turn i _ o' m news h tk (List.getElem?_eq_getElem hi) hc hJ F N) (fun _ s₂ h2 => wpAny_mono h2 (fun f s₃ h3 => ?_) fun _ _ e => e) fun _ _ e => e
    have up : ∀ s₃, UnrEndW h₀ env.locals { s with heap := h, toks := tk } [(I, o')] (fun m' n' => SubL keep n' ∧ J (i + 1) m' n') s₃ → UnrEndW h₀ env.locals { s with heap := h, toks := tk } [(I, o')] (fun m' n' => SubL keep n' ∧ ItemsRest prog w A E h₀ env target body Q s [(I, "list_iterator")] keep ((vs.drop (i + 1)).map .val) m' n') s₃ := by
      rintro s₃ ⟨h', tk', m', n', e, F', N', off, hs, hJ'⟩
      exact ⟨h', tk', m', n', e, F', N', off, hs, items_inv J turn done k (i + 1) m' n' (by omega) hJ'⟩
    cases f with
    | ret v => exact h3
    | brk => exact h3
    | next => exact up _ h3
    | cont => exact up _ h3
end
/-- cells of leads: no lists, no list's iterators, no cells of names -/
def OwnK3 (own : List (Addr × Obj)) : Prop := ∀ p ∈ own, p.2.cls ≠ .type "list" ∧ p.2.cls ≠ .type "list_iterator" ∧ ∀ v, p.2.data ≠ .cell v
theorem OwnK3.kind {own : List (Addr × Obj)} (h : OwnK3 own) : OwnKind own := fun p hp => ⟨(h p hp).1, (h p hp).2.2⟩
theorem Knows.shrink {own : List (Addr × Obj)} {kv : List Value} {kx : List (List Nat)} (h : Knows (fun a o => (a, o) ∈ own) kv kx) : ∃ own2 : List (Addr × Obj), (∀ p ∈ own2, p ∈ own) ∧ OwnK3 own2 ∧ Knows (fun a o => (a, o) ∈ own2) kv kx := by
  induction h with
  | nil => exact ⟨[], (fun _ h => nomatch h), (fun _ h => nomatch h), .nil⟩
  | @cons X x vs xs hw _ ih =>
    obtain ⟨own2, i1, i2, i3⟩ := ih
    obtain ⟨dx, es, k, nx, ct, cv, tr, tn, tb, n, nt, b, cnt, e1, a1, a2, a3, a4, a5, a6, a7, a8, a9⟩ := hw
    refine ⟨[(X, instObj 134 dx), (dx, dictOf es k), (nx, { cls := .type "tuple", data := .seq #[.ref ct, .int (b : Int) tb] }), (ct, { cls := .type "tuple", data := .seq cv.toArray })] ++ own2, ?_, ?_, ?_⟩
    · intro p hp
      simp only [List.cons_append, List.nil_append, List.mem_cons] at hp
      rcases hp with rfl | rfl | rfl | rfl | hp
      · exact a1
      · exact a2
      · exact a7
      · exact a8
      · exact i1 p hp
    · intro p hp
      simp only [List.cons_append, List.nil_append, List.mem_cons] at hp
      rcases hp with rfl | rfl | rfl | rfl | hp
      · exact ⟨(fun e => nomatch e), (fun e => nomatch e), fun v e => nomatch e⟩
      · exact ⟨(fun e => by injection e with e; exact absurd e (by decide)), (fun e => by injection e with e; exact absurd e (by decide)), fun v e => nomatch e⟩
      · exact ⟨(fun e => by injection e with e; exact absurd e (by decide)), (fun e => by injection e with e; exact absurd e (by decide)), fun v e => nomatch e⟩
      · exact ⟨(fun e => by injection e with e; exact absurd e (by decide)), (fun e => by injection e with e; exact absurd e (by decide)), fun v e => nomatch e⟩
      · exact i2 p hp
    · exact .cons ⟨dx, es, k, nx, ct, cv, tr, tn, tb, n, nt, b, cnt, e1, .head _, .tail _ (.head _), a3, a4, a5, a6, .tail _ (.tail _ (.head _)), .tail _ (.tail _ (.tail _ (.head _))), a9⟩ (i3.mono fun a o h => List.mem_append.mpr (.inr h))
section
variable {w : World} {mean : ExcName → Option Value} {mg mb : PySem.Str → Option Value}
  {dp un : Nat} {gd : Option (List Code)} {cn : PySem.Str} {cs : Scope} {a : Addr} {ccd : Value} {cl : List (PySem.Str × Addr)} {outer : List Env} {A₀ : Around} {base h₀ : Heap} {L : Addr} {m : PySem.Str → Option Value} {s : Shared} {keep own led : List (Addr × Obj)}
  {Q E : Value → Shared → Prop}
theorem use_labels {f : Fo} (hf : f.fits) (h1 : 1 ≤ f.size) (h10 : f.size ≤ 10) {xt : Tok} {ea ka : Addr} {ev : List Value} {es : List (List Nat)} {ek : Nat} {kv : List Value} {kk : Nat} {kx : List (List Nat)} {N : List Int} (hkn : Knows (fun a o => (a, o) ∈ own) kv kx) (hok : OwnK3 own)
    (he : StrsAre ev (es.map sOf)) (hl : es.length = 10) (hend : ∀ e ∈ es, isEnd e) (I : Inv kx N) (hkx : kx.length ≤ 29)
    (NN : News h₀ L s.heap led) (hka : (ka, listOf kv.toArray kk) ∈ led) (hown : ∀ p ∈ own, p ∈ led) (hkeep : ∀ p ∈ keep, p ∈ led) (hea : (ea, listOf ev.toArray ek) ∈ keep) (hne : ∀ p ∈ keep, @Ne Nat p.1 ka ∧ ∀ q ∈ own, @Ne Nat p.1 q.1)
    (B : Below A₀ base outer h₀) (F : Fr h₀ L s.heap m) (X : (hd.heap_39 w.params).In h₀)
    (T : Top hd.view_39 (looseW hd.view_39 [Str.ofString "EXACT_TOKEN_TYPES", Str.ofString "_twin_re_1", Str.ofString "_twin_re_2", Str.ofString "Whitespace"]) mean mg mb h₀) (hk : cs.kind = .function) (hd1 : dp + 6 < recursionLimit) (hu : un + 400 < cLine)
    (ret : ∀ (b : Addr) (lv : List Value) (k : Nat) (kv' : List Value) (kk' : Nat) (own' : List (Addr × Obj)) (kx' : List (List Nat)) (N' : List Int) (labs : List Nat) h' tk', IntsAre lv (labs.map Int.ofNat) → Knows (fun a o => (a, o) ∈ own') kv' kx' → OwnK3 own' → Inv kx' N' → N <+: N' → (∀ l ∈ labs, l < N'.length) → (labs.map fun l => N'.getD l 0) = f.num :: f.pre → kx'.length ≤ kx.length + f.size + 1 → (∀ x ∈ kx', x ∈ kx ∨ x.length ≤ 740) →
      Fr h₀ L h' m → News h₀ L h' ((b, listOf lv.toArray k) :: (ka, listOf kv'.toArray kk') :: (keep ++ own')) → Q (.ref b) { s with heap := h', toks := tk' }) :
    wpAny (model PySem.Challenge.rw_rw0103_01.row.prog w) (ktrTop dp un gd cn cs L a ccd cl outer) (call (.ref 162) [.str (sOf f.txt) xt, .ref ea, .ref ka]) Q E s := by
  have hnot : ∀ p ∈ keep, p.1 ∉ ((ka, listOf kv.toArray kk) :: own).map (·.1) := by
    intro p hp hm
    rw [List.map_cons] at hm
    rcases List.mem_cons.mp hm with e | hm
    · exact (hne p hp).1 e
    · obtain ⟨q, hq, e⟩ := List.mem_map.mp hm
      exact (hne p hp).2 q hq e.symm
  have hid : ∀ p ∈ keep, (hideAll s.heap (((ka, listOf kv.toArray kk) :: own).map (·.1))).get? p.1 = some p.2 := fun p hp => hideAll_get _ (NN p (hkeep p hp)).1 (hnot p hp)
  refine labels_fo w mean mg mb f hf h1 h10 xt ea ka ev es kv kk own kx N hkn hok.kind he hl hend I hkx dp un gd cn cs a ccd cl outer A₀ base h₀ L m s Q E B F X (fun p hp => ?_) T hk hd1 hu ⟨_, hid _ hea, rfl, _, rfl⟩ fun r news' h' tk' F' N' st hp => ?_
  · rcases List.mem_cons.mp hp with rfl | hp
    · exact NN _ hka
    · exact NN _ (hown p hp)
  · obtain ⟨b, lv, k, kv', kk', own', kx', N'', labs, rfl, e2, e3, e4, e5, e6, e7, e8, e9, e10, e11⟩ := hp
    obtain ⟨own2, i1, i2, i3⟩ := e4.shrink
    refine ret b lv k kv' kk' own2 kx' N'' labs h' tk' e3 i3 i2 e6 e7 e8 e9 e10 e11 F' fun p hp => ?_
    rcases List.mem_cons.mp hp with rfl | hp
    · exact N' _ (e2 _ (.head _))
    · rcases List.mem_cons.mp hp with rfl | hp
      · exact N' _ (e2 _ (.tail _ (.head _)))
      · rcases List.mem_append.mp hp with hp | hp
        · exact ⟨st _ _ (hid p hp), (NN p (hkeep p hp)).2⟩
        · exact N' _ (e2 _ (.tail _ (.tail _ (i1 p hp))))
end
end Mine
end
section
open PySem PySem.W PySem.Calls PyProof.Rows
set_option maxRecDepth 100000
namespace Mine
theorem own_ne {g h : Heap} {L a : Addr} {o : Obj} {led own : List (Addr × Obj)} (N : News g L h led) (hk : OwnK3 own) (hsub : ∀ p ∈ own, p ∈ led) (hp : (a, o) ∈ led) (hc : o.cls = .type "list" ∨ o.cls = .type "list_iterator" ∨ ∃ v, o.data = .cell v) : ∀ q ∈ own, @Ne Nat a q.1 := by
  intro q hq e
  have h1 := (N _ (hsub q hq)).1
  have h2 := (N _ hp).1
  dsimp only at h2
  rw [show a = q.1 from e, h1] at h2
  have h3 : q.2 = o := Option.some.inj h2
  have h4 := hk q hq
  rw [h3] at h4
  rcases hc with hc | hc | ⟨v, hc⟩
  · exact h4.1 hc
  · exact h4.2.1 hc
  · exact h4.2.2 v hc
theorem ne_cls {g h : Heap} {L a b : Addr} {led : List (Addr × Obj)} {o p : Obj} (N : News g L h led) (ha : (a, o) ∈ led) (hb : (b, p) ∈ led) (hop : o.cls ≠ p.cls) : @Ne Nat a b := by
  intro e
  have h1 := (N _ ha).1
  have h2 := (N _ hb).1
  dsimp only at h1 h2
  rw [show a = b from e, h2] at h1
  exact hop (congrArg Obj.cls (Option.some.inj h1.symm))
/-- the loop over the texts, between two turns -/
def JL (cL lKn : Addr) (fx : List (Addr × Obj)) (mB : Addr → Option Value → PySem.Str → Option Value) (flat : List Int) (cap : Nat) (m : PySem.Str → Option Value) (news : List (Addr × Obj)) : Prop :=
  ∃ (oL : Obj) (lLb lE : Addr) (ev : List Value) (es : List (List Nat)) (ek : Nat) (lv : List Value) (lk : Nat) (kv : List Value) (kk : Nat) (own : List (Addr × Obj)) (kx : List (List Nat)) (N : List Int) (labs : List Nat) (tx : Option Value),
    news = (cL, oL) :: (lLb, listOf lv.toArray lk) :: (lE, listOf ev.toArray ek) :: (fx ++ (lKn, listOf kv.toArray kk) :: own) ∧ m = mB lE tx ∧ oL.data = .cell (some (.ref lLb)) ∧ StrsAre ev (es.map sOf) ∧ es.length = 10 ∧ (∀ e ∈ es, isEnd e) ∧ IntsAre lv (labs.map Int.ofNat) ∧
      Knows (fun a o => (a, o) ∈ own) kv kx ∧ OwnK3 own ∧ Inv kx N ∧ (∀ l ∈ labs, l < N.length) ∧ (labs.map fun l => N.getD l 0) = flat ∧ kx.length ≤ cap ∧ (∀ x ∈ kx, x.length ≤ 740) ∧ @Ne Nat lLb lKn ∧ @Ne Nat lE lKn
def flats (fs : List Fo) (i : Nat) : List Int := ((fs.take i).map fun f => f.num :: f.pre).flatten
theorem flats_snoc {fs : List Fo} {i : Nat} {f : Fo} (h : fs[i]? = some f) : flats fs (i + 1) = flats fs i ++ (f.num :: f.pre) := by
  unfold flats
  rw [List.take_add_one, h]
  simp
theorem inv_nil : Inv [] [] := ⟨rfl, List.nodup_nil, fun i h => absurd h (by simp)⟩
theorem uncons {α : Type} {l : List α} {n : Nat} (h : l.length = n + 1) : ∃ a t, l = a :: t ∧ t.length = n := by
  cases l with
  | nil => cases h
  | cons a t => exact ⟨a, t, rfl, Nat.succ.inj h⟩
theorem ten {α : Type} {l : List α} (h : l.length = 10) : ∃ v0 v1 v2 v3 v4 v5 v6 v7 v8 v9, l = [v0, v1, v2, v3, v4, v5, v6, v7, v8, v9] := by
  refine shut fun P9 hP9 => ?_
  obtain ⟨v0, l0, e0, h⟩ := uncons h
  obtain ⟨v1, l1, e1, h⟩ := uncons h
  obtain ⟨v2, l2, e2, h⟩ := uncons h
  obtain ⟨v3, l3, e3, h⟩ := uncons h
  obtain ⟨v4, l4, e4, h⟩ := uncons h
  obtain ⟨v5, l5, e5, h⟩ := uncons h
  obtain ⟨v6, l6, e6, h⟩ := uncons h
  obtain ⟨v7, l7, e7, h⟩ := uncons h
  obtain ⟨v8, l8, e8, h⟩ := uncons h
  obtain ⟨v9, l9, e9, h⟩ := uncons h
  have e := List.eq_nil_of_length_eq_zero h
  rw [e] at e9; rw [e9] at e8; rw [e8] at e7; rw [e7] at e6; rw [e6] at e5; rw [e5] at e4; rw [e4] at e3; rw [e3] at e2; rw [e2] at e1; rw [e1] at e0
  exact hP9 ⟨v0, v1, v2, v3, v4, v5, v6, v7, v8, v9, e0⟩
theorem strs_ten {ev : List Value} {es : List (List Nat)} (h : StrsAre ev (es.map sOf)) (hl : es.length = 10) : ∃ v0 v1 v2 v3 v4 v5 v6 v7 v8 v9, ev = [v0, v1, v2, v3, v4, v5, v6, v7, v8, v9] ∧ StrsAre ([v5, v6, v7, v8, v9] ++ [v0, v1, v2, v3, v4]) ((es.drop 5 ++ es.take 5).map sOf) := by
  have hn : ev.length = 10 := by have := h.length; simpa [hl] using this
  have hr : StrsAre (ev.drop 5 ++ ev.take 5) ((es.drop 5 ++ es.take 5).map sOf) := by
    rw [List.map_append, List.map_drop, List.map_take]
    exact StrsAre.append' (StrsAre.drop' h 5) (StrsAre.take' h 5)
  refine shut fun P9 hP9 => ?_
  obtain ⟨v0, v1, v2, v3, v4, v5, v6, v7, v8, v9, e⟩ := ten hn
  rw [e] at hr
  exact hP9 ⟨v0, v1, v2, v3, v4, v5, v6, v7, v8, v9, e, hr⟩
theorem Fo.pre_len : ∀ f : Fo, f.pre.length = f.size
  | .nil => rfl
  | .cons k a b => by
    have h1 := a.pre_len
    have h2 := b.pre_len
    simp only [Fo.pre, Fo.size, List.length_cons, List.length_append]
    omega
theorem flats_len {fs : List Fo} : ∀ {i : Nat}, (∀ f ∈ fs, f.size ≤ 10) → (flats fs i).length ≤ 11 * i
  | 0, _ => by simp [flats]
  | i + 1, h => by
    cases hf : fs[i]? with
    | none =>
      have h0 := @flats_len fs i h
      have : flats fs (i + 1) = flats fs i := by
        unfold flats
        rw [List.take_add_one, hf]
        simp
      rw [this]; omega
    | some f =>
      have h0 := @flats_len fs i h
      rw [flats_snoc hf, List.length_append]
      have h1 := h f (List.mem_of_getElem? hf)
      have h2 : f.pre.length = f.size := f.pre_len
      simp only [List.length_cons]
      omega
end Mine
end
section
open PySem PySem.W PySem.Calls PyProof.Rows
set_option maxRecDepth 100000
namespace Mine
theorem slice_lead (a b : List Nat) : Txt.slice (sOf (a ++ b)) none (some (a.length : Int)) = sOf a := by
  have h : Txt.slice (sOf (a ++ b)) none (some (a.length : Int)) = _ := StrLaws.sliceText_to (x := sOf (a ++ b)) (j := (a.length : Int)) ⟨by omega, by simp; omega⟩
  rw [h]
  simp [sOf]
section
variable {prog : Program} {w : World} {A : Around} {E : Value → Shared → Prop} {s : Shared} {h₀ : Heap} {L : Addr} {m : PySem.Str → Option Value} {news : List (Addr × Obj)}
theorem slice_raw {value slice : PySem.Expr} {a b : List Nat} {t uj : Tok} {Q : Value → Shared → Prop} (hF : Fr h₀ L s.heap m) (hN : News h₀ L s.heap news) (hz : a.length + b.length ≤ 1000) (h : ∀ h' t' k, Fr h₀ L h' m → News h₀ L h' news → Q (.str (sOf a) t') { s with heap := h', toks := k })
    (hs : subscripted slice false (.str (sOf (a ++ b)) t) (.ref s.heap.objs.size) = operate [.ref s.heap.objs.size, .str (sOf (a ++ b)) t] (getItem (.str (sOf (a ++ b)) t) (.ref s.heap.objs.size)))
    (ht : ∀ r, letTemporaryGo value (.str (sOf (a ++ b)) t) r = pure ()) :
    wpAny (model prog w) A (subscriptTail value slice (.str (sOf (a ++ b)) t) (.ref s.heap.objs.size)) Q E { s with heap := s.heap.push { cls := .type "slice", data := .fields #[.none, .int (a.length : Int) uj, .none] } } :=
  slice_strN_ns hF hN (fun h' t' k F' N' => by rw [slice_lead]; exact h h' t' k F' N') hs ht (by rw [sOf_len, List.length_append, sizeLine_eq]; omega)
end
section
variable {w : World} {A : Around} {E : Value → Shared → Prop} {s : Shared} {h₀ : Heap} {L : Addr} {m : PySem.Str → Option Value}
theorem lead_raw {expr : Bool} {X : Addr} {x : List Nat} {Q : Value → Shared → Prop} (F : Fr h₀ L s.heap m) (X₀ : (hd.heap_39 w.params).In h₀) (hw : WsC (fun a o => s.heap.get? a = some o) X x) (h : ∀ t, Q (.str (sOf x) t) { s with toks := s.toks + 1 }) :
    wpAny (model PySem.Challenge.rw_rw0103_01.row.prog w) A (getAttr (.ref X) (Str.ofString "raw") expr) Q E s := by
  revert X₀
  k_fill
  intro X₀
  obtain ⟨dx, es, k, nx, ct, cv, tr, tn, tb, n, nt, b, cnt, e1, a1, a2, a3, a4, a5, a6, a7, a8, a9⟩ := hw
  refine get_own (attr := none) (C := 134) (es := es) (n := k) F X₀ ⟨a1, rfl, rfl, a2⟩ ?k4 ?k5 ?k6 ?k7 a3 ?k9 (h tr)
  case k4 => k_is
  case k5 => k_is
  case k6 => k_is
  case k7 => k_is
  case k9 => k_handed
theorem lead_n {expr : Bool} {X : Addr} {x : List Nat} {n : Nat} {Q : Value → Shared → Prop} (F : Fr h₀ L s.heap m) (X₀ : (hd.heap_39 w.params).In h₀) (hw : WsC (fun a o => s.heap.get? a = some o) X x) (hn : (scan x 0 0 0 []).1 = n) (h : ∀ t, Q (.int (n : Int) t) { s with toks := s.toks + 1 }) :
    wpAny (model PySem.Challenge.rw_rw0103_01.row.prog w) A (getAttr (.ref X) (Str.ofString "n") expr) Q E s := by
  revert X₀
  k_fill
  intro X₀
  obtain ⟨dx, es, k, nx, ct, cv, tr, tn, tb, n', nt, b, cnt, e1, a1, a2, a3, a4, a5, a6, a7, a8, a9⟩ := hw
  rw [e1] at hn
  have hn : n' = n := hn
  subst hn
  refine get_own (attr := none) (C := 134) (es := es) (n := k) F X₀ ⟨a1, rfl, rfl, a2⟩ ?k4 ?k5 ?k6 ?k7 a4 ?k9 (h tn)
  case k4 => k_is
  case k5 => k_is
  case k6 => k_is
  case k7 => k_is
  case k9 => k_handed
end
end Mine
end
section
open PySem PySem.W PySem.Calls PyProof.Rows
set_option maxRecDepth 100000
namespace Mine
section
variable {prog : Program} {w : World} {A : Around} {E : Value → Shared → Prop} {R : Result → Shared → Prop} {s : Shared} {h₀ : Heap} {L : Addr} {m : PySem.Str → Option Value} {env : Env}
theorem turn1 (elt : Expr) (g0 : Comprehension) (tb iterY : Expr) (scope : Scope) (pos : Pos) (it acc : Value) (env : Env) :
    compTurn (.ListComp elt [g0, ⟨tb, iterY, [], 0⟩] scope pos) 1 it acc env = (standAt iterY.pos >>= fun _ => pyNext it >>= fun r => match r with
      | none => pure (.done .next)
      | some v => letOwnedTupleGo tb it v >>= fun _ => assign tb env v >>= fun _ =>
        (eval elt env >>= fun x => call (.builtin "list.append") [acc, x] >>= fun _ => pure ()) >>= fun _ =>
          again (.compLoop (.ListComp elt [g0, ⟨tb, iterY, [], 0⟩] scope pos) 1 it acc env)) := by rfl
theorem turn0 (elt ta iterX tb iterY : Expr) (scope : Scope) (pos : Pos) (it acc : Value) (env : Env) :
    compTurn (.ListComp elt [⟨ta, iterX, [], 0⟩, ⟨tb, iterY, [], 0⟩] scope pos) 0 it acc env = (standAt iterX.pos >>= fun _ => pyNext it >>= fun r => match r with
      | none => pure (.done .next)
      | some v => letOwnedTupleGo ta it v >>= fun _ => assign ta env v >>= fun _ =>
        eval iterY env >>= fun x => standAt iterY.pos >>= fun _ => foldedSetIterable iterY env x >>= fun x => holding [x] (pyIter x) >>= fun i =>
          runOwn (.compStart (.ListComp elt [⟨ta, iterX, [], 0⟩, ⟨tb, iterY, [], 0⟩] scope pos) 1 i acc env) env >>= fun _ =>
          again (.compLoop (.ListComp elt [⟨ta, iterX, [], 0⟩, ⟨tb, iterY, [], 0⟩] scope pos) 0 it acc env)) := by rfl
/-- where a comprehension's parts lie -/
structure Sep (h₀ : Heap) (L J C D : Addr) (news : List (Addr × Obj)) : Prop where
  JC : J ≠ C
  JD : J ≠ D
  CD : C ≠ D
  JL : J ≠ L
  CL : C ≠ L
  DL : D ≠ L
  J0 : h₀.get? J = none
  C0 : h₀.get? C = none
  D0 : h₀.get? D = none
  off : ∀ p ∈ news, p.1 ≠ J ∧ p.1 ≠ C ∧ p.1 ≠ D
theorem start1 {elt tb iterY : Expr} {g0 : Comprehension} {scope : Scope} {pos : Pos} {it acc : Value}
    (h0 : codeAny (model prog w) A (.compLoop (.ListComp elt [g0, ⟨tb, iterY, [], 0⟩] scope pos) 1 it acc env) R s)
    (h : wpAny (model prog w) A (pyIter it) (fun it' s' => codeAny (model prog w) A (.compLoop (.ListComp elt [g0, ⟨tb, iterY, [], 0⟩] scope pos) 1 it' acc env) R s')
      (notedBy (model prog w) A env fun x s' => R (.error x) s') s) :
    codeAny (model prog w) A (.compStart (.ListComp elt [g0, ⟨tb, iterY, [], 0⟩] scope pos) 1 it acc env) R s := by
  refine codeAny_of_tree ?_
  show wpAny _ _ ((compStart (.ListComp elt [g0, ⟨tb, iterY, [], 0⟩] scope pos) 1 it acc env).onRaise (fun x => do noteFrame x env; standAt theWindowsPlace)) _ _ s
  refine wpAny_notedAt ?_
  unfold compStart
  show wpAny _ _ (ask >>= _) _ _ s
  refine wpAny_bind (wpAny_askSetting (wpAny_ite ?_))
  split
  · first
      | exact wpAny_bind (wpAny_pure (wpAny_pure (And.intro rfl h0)))
      | exact wpAny_pure (And.intro rfl h0)
  · first
      | exact wpAny_bind (wpAny_rule (wpAny_bind (wpAny_standAt (wpAny_bind (wpAny_mono h (fun it' s' h' => wpAny_pure (And.intro rfl h')) fun _ _ x => x)))))
      | (refine wpAny_bind (wpAny_rule ?_); show wpAny _ _ (standAt iterY.pos >>= _) _ _ s; exact wpAny_bind (wpAny_standAt (wpAny_bind (wpAny_mono h (fun it' s' h' => wpAny_pure (And.intro rfl h')) fun _ _ x => x))))
theorem take_map_snoc {α β : Type} (f : α → β) (l : List α) (i : Nat) (v : α) (h : l[i]? = some v) : (l.take (i + 1)).map f = (l.take i).map f ++ [f v] := by
  rw [List.take_add_one, h]; simp
theorem take_flat_snoc {α β : Type} (f : α → List β) (l : List α) (i : Nat) (v : α) (h : l[i]? = some v) : (l.take (i + 1)).flatMap f = (l.take i).flatMap f ++ f v := by
  rw [List.take_add_one, h]; simp
/-- the inner clause over a list -/
theorem two_inner {elt iterY : Expr} {g0 : Comprehension} {a b : PySem.Str} {pb : Pos} {scope : Scope} {pos : Pos} {cl : List (PySem.Str × Addr)} {C D J ly : Addr} {ys zs : List Value} {ny : Nat} {news : List (Addr × Obj)} {x : Value} {f : Value → Value → Bool} {m₁ : PySem.Str → Option Value}
    (hh : A.handled = none) (hb : scope.names.lookup b = some .local) (hkind : scope.kind = .function) (hab : a ≠ b) (S : Sep h₀ L J C D news) (hly : (ly, listOf ys.toArray ny) ∈ news) (hsz : zs.length + ys.length ≤ sizeLine)
    (F : Fr h₀ L s.heap m) (N : News h₀ L s.heap news) (hJ : s.heap.IsListIter J ly 0) (hC : s.heap.Ns C m₁) (ha : m₁ a = some x) (hD : s.heap.get? D = some (LCg.lst zs))
    (hE : ∀ y m₂ h tk (Q' E' : Value → Shared → Prop), y ∈ ys → h.Ns C m₂ → m₂ a = some x → m₂ b = some y → (∀ tk', Q' (.bool (f x y)) { s with heap := h, toks := tk' }) → wpAny (model prog w) A (eval elt (compEnvC scope cl C env)) Q' E' { s with heap := h, toks := tk })
    (hR : ∀ h' tk m', Fr h₀ L h' m → News h₀ L h' news → h'.Ns C m' → h'.get? D = some (LCg.lst (zs ++ ys.map fun y => Value.bool (f x y))) → R (.ok .next) { s with heap := h', toks := tk }) :
    codeAny (model prog w) A (.compLoop (.ListComp elt [g0, ⟨.Name b pb, iterY, [], 0⟩] scope pos) 1 (.ref J) (.ref D) (compEnvC scope cl C env)) R s := by
  have hlyJ : ly ≠ J := (S.off _ hly).1
  have isl : ∀ h', News h₀ L h' news → h'.IsList ly ys.toArray := fun h' N' => ⟨_, (N' _ hly).1, rfl, _, rfl⟩
  have W := Walks.list (prog := prog) (w := w) hh J ly hlyJ ys.toArray
  refine codeAny_loop rfl (fun k s' => ∃ h' tk j m', s' = { s with heap := h', toks := tk } ∧ j ≤ ys.length ∧ k = ys.length + 1 - j ∧ h'.IsListIter J ly j ∧ Fr h₀ L h' m ∧ News h₀ L h' news ∧ h'.Ns C m' ∧ m' a = some x ∧
      h'.get? D = some (LCg.lst (zs ++ (ys.take j).map fun y => Value.bool (f x y)))) ?_ (ys.length + 1) ⟨s.heap, s.toks, 0, m₁, rfl, by omega, rfl, hJ, F, N, hC, ha, by simpa using hD⟩
  rintro k s' ⟨h1, tk, j, m', rfl, hj, rfl, hJ1, F1, N1, hC1, ha1, hD1⟩
  show wpAny _ A ((compTurn (.ListComp elt [g0, ⟨.Name b pb, iterY, [], 0⟩] scope pos) 1 (.ref J) (.ref D) (compEnvC scope cl C env)).onRaise (fun x => do noteFrame x (compEnvC scope cl C env); theTreesLotGoes x)) _ _ _
  refine wpAny_noted ?_
  rw [turn1]
  refine wpAny_bind (wpAny_standAt (wpAny_bind ?_))
  have keepF : ∀ h2, (∀ c o, c ∉ [J] → h1.get? c = some o → h2.get? c = some o) → Fr h₀ L h2 m ∧ News h₀ L h2 news ∧ h2.Ns C m' ∧ h2.get? D = some (LCg.lst (zs ++ (ys.take j).map fun y => Value.bool (f x y))) := fun h2 hk =>
    ⟨LCg.fr_but F1 hk (Ne.symm S.JL) S.J0, LCg.news_but N1 hk fun p hp => (S.off p hp).1, hC1.at' fun o e => hk _ o (by simpa using Ne.symm S.JC) e, hk _ _ (by simpa using Ne.symm S.JD) hD1⟩
  by_cases hlt : j < ys.length
  · refine W.item j _ _ _ (by simpa using hlt) ⟨hJ1, isl _ N1⟩ fun v h2 tk2 hv hst hk => ?_
    obtain ⟨F2, N2, hC2, hD2⟩ := keepF h2 hk
    have hv' : ys[j]? = some v := by simpa using hv
    dsimp only
    refine wpAny_bind (wpAny_of_eq (rfl : letOwnedTupleGo (.Name b pb) (.ref J) v = pure ()) ?_)
    refine wpAny_bind (wpAny_assign_Name (wpAny_storeName_local (lookup_relabel_local hb) hC2 (fun h3 hC3 hs3 => ?_) (by simp [compEnvC, relabel, hkind])))
    have F3 : Fr h₀ L h3 m := F2.change hs3 S.CL S.C0
    have N3 : News h₀ L h3 news := fun p hp => ⟨hs3.extBut _ _ (S.off p hp).2.1 (N2 p hp).1, (N2 p hp).2⟩
    have hJ3 : h3.IsListIter J ly (j + 1) := hst.1.at fun o e => hs3.extBut _ _ S.JC e
    have hD3 : h3.get? D = some (LCg.lst (zs ++ (ys.take j).map fun y => Value.bool (f x y))) := hs3.extBut _ _ (Ne.symm S.CD) hD2
    refine wpAny_bind (wpAny_bind (hE v _ h3 _ _ _ (List.mem_of_getElem? hv') hC3 (by simp [hab, ha1]) (by simp) fun tk' => ?_))
    refine wpAny_bind (append_at hD3 (fun h4 hs4 hD4 => ?_) (by simp; omega))
    refine wpAny_pure (wpAny_pure ⟨rfl, ys.length + 1 - (j + 1), by omega, h4, tk', j + 1, _, rfl, by omega, rfl, hJ3.at fun o e => hs4.extBut _ _ S.JD e, F3.change hs4 S.DL S.D0, fun p hp => ⟨hs4.extBut _ _ (S.off p hp).2.2 (N3 p hp).1, (N3 p hp).2⟩, hC3.sameBut hs4 S.CD, by simp [hab, ha1], ?_⟩)
    rw [take_map_snoc _ _ _ _ hv', ← List.append_assoc, ← LCg.lst_snoc]
    exact hD4
  · have hjn : j = ys.length := by omega
    subst hjn
    refine W.done _ _ _ ⟨by simpa using hJ1, isl _ N1⟩ fun h2 tk2 hk => ?_
    obtain ⟨F2, N2, hC2, hD2⟩ := keepF h2 hk
    exact wpAny_pure (hR h2 tk2 _ F2 N2 hC2 (by simpa using hD2))
/-- two clauses over lists -/
theorem two_outer {elt iterX iterY : Expr} {a b : PySem.Str} {pa pb : Pos} {scope : Scope} {pos : Pos} {cl : List (PySem.Str × Addr)} {C D I lx ly : Addr} {xs ys : List Value} {nx ny : Nat} {news : List (Addr × Obj)} {f : Value → Value → Bool} {m₁ : PySem.Str → Option Value}
    (hh : A.handled = none) (hx : scope.names.lookup a = some .local) (hb : scope.names.lookup b = some .local) (hkind : scope.kind = .function) (hab : a ≠ b) (S : Sep h₀ L I C D news) (hlx : (lx, listOf xs.toArray nx) ∈ news) (hly : (ly, listOf ys.toArray ny) ∈ news) (hsz : xs.length * ys.length ≤ sizeLine)
    (F : Fr h₀ L s.heap m) (N : News h₀ L s.heap news) (hI : s.heap.IsListIter I lx 0) (hC : s.heap.Ns C m₁) (hD : s.heap.get? D = some (LCg.lst []))
    (hfs : ∀ x, foldedSetIterable iterY (compEnvC scope cl C env) x = pure x)
    (hY : ∀ h tk (Q' E' : Value → Shared → Prop), News h₀ L h news → Q' (.ref ly) { s with heap := h, toks := tk } → wpAny (model prog w) A (eval iterY (compEnvC scope cl C env)) Q' E' { s with heap := h, toks := tk })
    (hE : ∀ x y m₂ h tk (Q' E' : Value → Shared → Prop), x ∈ xs → y ∈ ys → h.Ns C m₂ → m₂ a = some x → m₂ b = some y → (∀ tk', Q' (.bool (f x y)) { s with heap := h, toks := tk' }) → wpAny (model prog w) A (eval elt (compEnvC scope cl C env)) Q' E' { s with heap := h, toks := tk })
    (hR : ∀ h' tk m', Fr h₀ L h' m → News h₀ L h' news → h'.Ns C m' → h'.get? D = some (LCg.lst (xs.flatMap fun x => ys.map fun y => Value.bool (f x y))) → R (.ok .next) { s with heap := h', toks := tk }) :
    codeAny (model prog w) A (.compLoop (.ListComp elt [⟨.Name a pa, iterX, [], 0⟩, ⟨.Name b pb, iterY, [], 0⟩] scope pos) 0 (.ref I) (.ref D) (compEnvC scope cl C env)) R s := by
  have hlxI : lx ≠ I := (S.off _ hlx).1
  have isl : ∀ h', News h₀ L h' news → h'.IsList lx xs.toArray := fun h' N' => ⟨_, (N' _ hlx).1, rfl, _, rfl⟩
  have W := Walks.list (prog := prog) (w := w) hh I lx hlxI xs.toArray
  refine codeAny_loop rfl (fun k s' => ∃ h' tk j m', s' = { s with heap := h', toks := tk } ∧ j ≤ xs.length ∧ k = xs.length + 1 - j ∧ h'.IsListIter I lx j ∧ Fr h₀ L h' m ∧ News h₀ L h' news ∧ h'.Ns C m' ∧
      h'.get? D = some (LCg.lst ((xs.take j).flatMap fun x => ys.map fun y => Value.bool (f x y)))) ?_ (xs.length + 1) ⟨s.heap, s.toks, 0, m₁, rfl, by omega, rfl, hI, F, N, hC, by simpa using hD⟩
  rintro k s' ⟨h1, tk, j, m', rfl, hj, rfl, hI1, F1, N1, hC1, hD1⟩
  show wpAny _ A ((compTurn (.ListComp elt [⟨.Name a pa, iterX, [], 0⟩, ⟨.Name b pb, iterY, [], 0⟩] scope pos) 0 (.ref I) (.ref D) (compEnvC scope cl C env)).onRaise (fun x => do noteFrame x (compEnvC scope cl C env); theTreesLotGoes x)) _ _ _
  refine wpAny_noted ?_
  rw [turn0]
  refine wpAny_bind (wpAny_standAt (wpAny_bind ?_))
  have keepF : ∀ h2, (∀ c o, c ∉ [I] → h1.get? c = some o → h2.get? c = some o) → Fr h₀ L h2 m ∧ News h₀ L h2 news ∧ h2.Ns C m' ∧ h2.get? D = some (LCg.lst ((xs.take j).flatMap fun x => ys.map fun y => Value.bool (f x y))) := fun h2 hk =>
    ⟨LCg.fr_but F1 hk (Ne.symm S.JL) S.J0, LCg.news_but N1 hk fun p hp => (S.off p hp).1, hC1.at' fun o e => hk _ o (by simpa using Ne.symm S.JC) e, hk _ _ (by simpa using Ne.symm S.JD) hD1⟩
  by_cases hlt : j < xs.length
  · refine W.item j _ _ _ (by simpa using hlt) ⟨hI1, isl _ N1⟩ fun v h2 tk2 hv hst hk => ?_
    obtain ⟨F2, N2, hC2, hD2⟩ := keepF h2 hk
    have hv' : xs[j]? = some v := by simpa using hv
    dsimp only
    refine wpAny_bind (wpAny_of_eq (rfl : letOwnedTupleGo (.Name a pa) (.ref I) v = pure ()) ?_)
    refine wpAny_bind (wpAny_assign_Name (wpAny_storeName_local (lookup_relabel_local hx) hC2 (fun h3 hC3 hs3 => ?_) (by simp [compEnvC, relabel, hkind])))
    have F3 : Fr h₀ L h3 m := F2.change hs3 S.CL S.C0
    have N3 : News h₀ L h3 news := fun p hp => ⟨hs3.extBut _ _ (S.off p hp).2.1 (N2 p hp).1, (N2 p hp).2⟩
    have hI3 : h3.IsListIter I lx (j + 1) := hst.1.at fun o e => hs3.extBut _ _ S.JC e
    have hD3 : h3.get? D = some (LCg.lst ((xs.take j).flatMap fun x => ys.map fun y => Value.bool (f x y))) := hs3.extBut _ _ (Ne.symm S.CD) hD2
    obtain ⟨oI, eI, hoI⟩ := hI3
    obtain ⟨oC, eC, hoC⟩ := LCg.ns_obj hC3
    refine wpAny_bind (hY h3 _ _ _ N3 ?_)
    refine wpAny_bind (wpAny_standAt (wpAny_bind (wpAny_of_eq (hfs _) (wpAny_bind (wpAny_holding ?_)))))
    refine wpAny_pyIter_list (s := { s with heap := h3, toks := _ }) ⟨_, (N3 _ hly).1, rfl, _, rfl⟩ ?_
    refine wpAny_bind (wpAny_runOwn ?_)
    have up : ∀ (o' : Obj) c o, h3.get? c = some o → (h3.push o').get? c = some o := fun o' c o e => Heap.get?_push_of_some _ e
    have lt3 : ∀ {c o}, h3.get? c = some o → c ≠ h3.objs.size := fun e => Nat.ne_of_lt (Heap.lt_size e)
    have hlen : ((xs.take j).flatMap fun x => ys.map fun y => Value.bool (f x y)).length = j * ys.length := by
      rw [List.length_flatMap]
      simp only [List.length_map, List.map_const', List.sum_replicate_nat, List.length_take]
      rw [Nat.min_eq_left hj]
    have hsz2 : ((xs.take j).flatMap fun x => ys.map fun y => Value.bool (f x y)).length + ys.length ≤ sizeLine := by
      rw [hlen, ← Nat.succ_mul]
      exact Nat.le_trans (Nat.mul_le_mul_right _ hlt) hsz
    have key : ∀ (tk5 : Nat) (R' : Result → Shared → Prop), (∀ h4 tk4 m4, Fr h₀ L h4 m → News h₀ L h4 news → h4.Ns C m4 → h4.IsListIter I lx (j + 1) → h4.get? D = some (LCg.lst ((xs.take (j + 1)).flatMap fun x => ys.map fun y => Value.bool (f x y))) → R' (.ok .next) { s with heap := h4, toks := tk4 }) →
        codeAny (model prog w) A (.compLoop (.ListComp elt [⟨.Name a pa, iterX, [], 0⟩, ⟨.Name b pb, iterY, [], 0⟩] scope pos) 1 (.ref h3.objs.size) (.ref D) (compEnvC scope cl C env)) R'
        { s with heap := h3.push { cls := .type "list_iterator", data := .fields #[.ref ly, .int 0 0] }, toks := tk5 } := by
      intro tk5 R' hR'
      refine two_inner (news := (I, oI) :: news) (x := v) hh hb hkind hab ⟨Ne.symm (lt3 eC), Ne.symm (lt3 hD3), S.CD, Ne.symm (Nat.ne_of_lt F3.ns.lt), S.CL, S.DL, next_is_new F3, S.C0, S.D0, ?_⟩ (.tail _ hly) hsz2 (F3.keeps (up _)) ?_ ⟨_, Heap.get?_push_size _ rfl, rfl, rfl⟩ ((hoC.ns eC).at' fun o e => up _ _ _ e) (by simp) (up _ _ _ hD3) (fun y m₂ h tk Q' E' hy => hE v y m₂ h tk Q' E' (List.mem_of_getElem? hv') hy) fun h4 tk4 m4 F4 N4 hC4 hD4 => ?_
      · intro p hp
        rcases List.mem_cons.mp hp with rfl | hp
        · exact ⟨lt3 eI, S.JC, S.JD⟩
        · exact ⟨lt3 (N3 p hp).1, (S.off p hp).2⟩
      · intro p hp
        rcases List.mem_cons.mp hp with rfl | hp
        · exact ⟨up _ _ _ eI, S.JL, S.J0⟩
        · exact ⟨up _ _ _ (N3 p hp).1, (N3 p hp).2⟩
      · refine hR' h4 tk4 m4 F4 (fun p hp => N4 p (.tail _ hp)) hC4 ⟨oI, (N4 _ (.head _)).1, hoI⟩ ?_
        rw [take_flat_snoc _ _ _ _ hv']
        exact hD4
    have fin : ∀ h4 tk4 m4, Fr h₀ L h4 m → News h₀ L h4 news → h4.Ns C m4 → h4.IsListIter I lx (j + 1) → h4.get? D = some (LCg.lst ((xs.take (j + 1)).flatMap fun x => ys.map fun y => Value.bool (f x y))) → _ := fun h4 tk4 m4 F4 N4 hC4 hI4 hD4 =>
      (⟨rfl, xs.length + 1 - (j + 1), by omega, h4, tk4, j + 1, m4, rfl, by omega, rfl, hI4, F4, N4, hC4, hD4⟩ : (Code.compLoop (.ListComp elt [⟨.Name a pa, iterX, [], 0⟩, ⟨.Name b pb, iterY, [], 0⟩] scope pos) 0 (.ref I) (.ref D) (compEnvC scope cl C env) = .compLoop (.ListComp elt [⟨.Name a pa, iterX, [], 0⟩, ⟨.Name b pb, iterY, [], 0⟩] scope pos) 0 (.ref I) (.ref D) (compEnvC scope cl C env)) ∧ ∃ k', k' < xs.length + 1 - j ∧ ∃ h' tk j' m', { s with heap := h4, toks := tk4 } = ({ s with heap := h', toks := tk } : Shared) ∧ j' ≤ xs.length ∧ k' = xs.length + 1 - j' ∧ h'.IsListIter I lx j' ∧ Fr h₀ L h' m ∧ News h₀ L h' news ∧ h'.Ns C m' ∧ h'.get? D = some (LCg.lst ((xs.take j').flatMap fun x => ys.map fun y => Value.bool (f x y))))
    show codeAny (model prog w) A _ _ _
    refine start1 (key _ _ fun h4 tk4 m4 F4 N4 hC4 hI4 hD4 => ?_) (wpAny_pyIter_listiter ⟨_, Heap.get?_push_size _ rfl, rfl, rfl⟩ (key _ _ fun h4 tk4 m4 F4 N4 hC4 hI4 hD4 => ?_))
    · exact wpAny_pure (fin h4 tk4 m4 F4 N4 hC4 hI4 hD4)
    · exact wpAny_pure (fin h4 tk4 m4 F4 N4 hC4 hI4 hD4)
  · have hjn : j = xs.length := by omega
    subst hjn
    refine W.done _ _ _ ⟨by simpa using hI1, isl _ N1⟩ fun h2 tk2 hk => ?_
    obtain ⟨F2, N2, hC2, hD2⟩ := keepF h2 hk
    exact wpAny_pure (hR h2 tk2 _ F2 N2 hC2 (by simpa using hD2))
end
end Mine
end
section
open PySem PySem.W PySem.Calls PyProof.Rows
set_option maxRecDepth 100000
namespace Mine
theorem lt_ne {a b c : Nat} (h : a < b) (hc : b ≤ c) : a ≠ c := by omega
section
variable {prog : Program} {w : World} {A : Around} {E : Value → Shared → Prop} {R : Result → Shared → Prop} {s : Shared} {h₀ : Heap} {L : Addr} {m : PySem.Str → Option Value} {env : Env}
/-- a comprehension of two clauses over lists of the ledger, its element a truth value -/
theorem ListComp_two {elt iterX iterY : Expr} {a b : PySem.Str} {pa pb : Pos} {scope : Scope} {pos : Pos} {cl : List (PySem.Str × Addr)} {lx ly : Addr} {xs ys : List Value} {nx ny : Nat} {news : List (Addr × Obj)} {f : Value → Value → Bool} {Q : Value → Shared → Prop}
    (F : Fr h₀ L s.heap m) (N : News h₀ L s.heap news) (hh : A.handled = none)
    (hclos : closureFor scope env = pure cl) (hcell : ∀ y ∈ scope.names, y.2 ≠ .cell) (hkind : scope.kind = .function)
    (hnames : ∀ y ∈ scope.names, y.2 = .local → scope.names.lookup y.1 = some .local) (hx : scope.names.lookup a = some .local) (hb : scope.names.lookup b = some .local) (hab : a ≠ b)
    (hlx : (lx, listOf xs.toArray nx) ∈ news) (hly : (ly, listOf ys.toArray ny) ∈ news) (hsz : xs.length * ys.length ≤ sizeLine)
    (hX : ∀ Q' : Value → Shared → Prop, Q' (.ref lx) s → wpAny (model prog w) A (eval iterX env) Q' E s)
    (hY : ∀ C h tk (Q' E' : Value → Shared → Prop), News h₀ L h news → Q' (.ref ly) { s with heap := h, toks := tk } → wpAny (model prog w) A (eval iterY (compEnvC scope cl C env)) Q' E' { s with heap := h, toks := tk })
    (hE : ∀ C x y m₂ h tk (Q' E' : Value → Shared → Prop), x ∈ xs → y ∈ ys → h.Ns C m₂ → m₂ a = some x → m₂ b = some y → (∀ tk', Q' (.bool (f x y)) { s with heap := h, toks := tk' }) → wpAny (model prog w) A (eval elt (compEnvC scope cl C env)) Q' E' { s with heap := h, toks := tk })
    (ret : ∀ D h tk, Fr h₀ L h m → News h₀ L h ((D, LCg.lst (xs.flatMap fun x => ys.map fun y => Value.bool (f x y))) :: news) → (∀ p ∈ news, @Ne Nat D p.1) → Q (.ref D) { s with heap := h, toks := tk })
    (hs : ∀ x, foldedSetIterable iterX env x = pure x := by intro _; rfl) (hfs : ∀ C x, foldedSetIterable iterY (compEnvC scope cl C env) x = pure x := by intro _ _; rfl) :
    wpAny (model prog w) A (eval (.ListComp elt [⟨.Name a pa, iterX, [], 0⟩, ⟨.Name b pb, iterY, [], 0⟩] scope pos) env) Q E s := by
  rw [eval_ListComp]
  refine wpAny_comprehension_free (use := none) rfl hs hclos hkind hnames (hX _ ?_)
  have hlxl : s.heap.IsList lx xs.toArray := ⟨_, (N _ hlx).1, rfl, _, rfl⟩
  refine wpAny_pyIter_list hlxl ?_
  have up1 : ∀ (o' : Obj) {h : Heap} c o, h.get? c = some o → (h.push o').get? c = some o := fun o' h c o e => Heap.get?_push_of_some _ e
  generalize hH1 : s.heap.push { cls := .type "list_iterator", data := .fields #[.ref lx, .int 0 0] } = H1
  have old1 : ∀ c o, s.heap.get? c = some o → H1.get? c = some o := fun c o e => hH1 ▸ up1 _ c o e
  have hI1 : H1.IsListIter s.heap.objs.size lx 0 := ⟨_, hH1 ▸ Heap.get?_push_size _ rfl, rfl, rfl⟩
  have z1 : H1.objs.size = s.heap.objs.size + 1 := by rw [← hH1, Heap.size_push]
  refine wpAny_newObj_type (wpAny_newFunctionEnv hcell (by intro y hy; simp at hy) (fun h₁ hns₁ hsb₁ => ?_) hkind)
  dsimp only at hns₁ hsb₁ ⊢
  generalize hH2 : H1.push { cls := .type "list", dict := none, data := .seq ([] : List Value).toArray } = H2 at hns₁ hsb₁ ⊢
  have z2 : H2.objs.size = s.heap.objs.size + 2 := by rw [← hH2, Heap.size_push, z1]
  have old : ∀ b o, s.heap.get? b = some o → h₁.get? b = some o := fun b o e => hsb₁.extBut b o (lt_ne (Heap.lt_size e) (by omega)) (up1 _ _ _ (hH2 ▸ up1 _ _ _ (old1 _ _ e)))
  have hD : h₁.get? H1.objs.size = some (LCg.lst []) := hsb₁.extBut _ _ (by show @Ne Nat _ _; omega) (up1 _ _ _ (hH2 ▸ Heap.get?_push_size _ rfl))
  have hI : h₁.IsListIter s.heap.objs.size lx 0 := hI1.at fun o e => hsb₁.extBut _ _ (by show @Ne Nat _ _; omega) (up1 _ _ _ (hH2 ▸ up1 _ _ _ e))
  have fresh₀ : ∀ a, s.heap.objs.size ≤ a → h₀.get? a = none := fun a ha => by
    cases e : h₀.get? a with
    | none => rfl
    | some o' => exact absurd (Heap.lt_size (F.keep a o' e)) (Nat.not_lt.mpr ha)
  have hLlt : L < s.heap.objs.size := F.ns.lt
  have S : Sep h₀ L s.heap.objs.size H2.objs.size H1.objs.size news := ⟨by show @Ne Nat _ _; omega, by show @Ne Nat _ _; omega, by show @Ne Nat _ _; omega, Ne.symm (lt_ne hLlt (by omega)), Ne.symm (lt_ne hLlt (by omega)), Ne.symm (lt_ne hLlt (by omega)), fresh₀ _ (Nat.le_refl _), fresh₀ _ (by omega), fresh₀ _ (by omega),
    fun p hp => have hl := Heap.lt_size (N p hp).1; ⟨lt_ne hl (by omega), lt_ne hl (by omega), lt_ne hl (by omega)⟩⟩
  have loop : ∀ tk5, codeAny (model prog w) A (.compLoop (.ListComp elt [⟨.Name a pa, iterX, [], 0⟩, ⟨.Name b pb, iterY, [], 0⟩] scope pos) 0 (.ref s.heap.objs.size) (.ref H1.objs.size) (compEnvC scope cl H2.objs.size env))
      (compPost (model prog w) A E none Q (.ref H1.objs.size) H2.objs.size) { s with heap := h₁, toks := tk5 } := by
    intro tk5
    refine two_outer (f := f) hh hx hb hkind hab S hlx hly hsz (F.keeps old) (fun p hp => ⟨old _ _ (N p hp).1, (N p hp).2⟩) hI hns₁ hD (hfs _) (fun h tk Q' E' N' q => hY _ h tk Q' E' N' q) (fun x y m₂ h tk Q' E' => hE _ x y m₂ h tk Q' E') fun h' tk m' F' N' hC' hD' => ?_
    refine ⟨m', hC', fun h'' hs'' => ret _ h'' tk (F'.change hs'' S.CL S.C0) (fun p hp => ?_) fun p hp => Ne.symm (S.off p hp).2.2⟩
    rcases List.mem_cons.mp hp with rfl | hp
    · exact ⟨hs''.extBut _ _ (Ne.symm S.CD) hD', S.DL, S.D0⟩
    · exact ⟨hs''.extBut _ _ (S.off p hp).2.1 (N' p hp).1, (N' p hp).2⟩
  exact codeAny_compStart_list (loop _) (wpAny_pyIter_listiter hI (loop _))
end
end Mine
end
section
open PySem PySem.W PySem.Calls PyProof.Rows
set_option maxRecDepth 100000
namespace Mine
/-- the table of equal places -/
def eqs (ns : List Int) : List Bool := ns.flatMap fun a => ns.map fun b => (a == b)
def vi : Value → Int
  | .int n _ => n
  | _ => 0
theorem vi_map {vs : List Value} {ns : List Int} (h : IntsAre vs ns) : vs.map vi = ns := by
  induction h with
  | nil => rfl
  | cons n t _ ih => rw [List.map_cons, ih]; rfl
theorem vi_mem {vs : List Value} {ns : List Int} (h : IntsAre vs ns) : ∀ v ∈ vs, ∃ n t, v = .int n t := by
  induction h with
  | nil => exact fun v h => nomatch h
  | cons n t _ ih =>
    intro v hv
    rcases List.mem_cons.mp hv with rfl | hv
    · exact ⟨_, _, rfl⟩
    · exact ih v hv
theorem eqs_vals {vs : List Value} {ns : List Int} (h : IntsAre vs ns) : (vs.flatMap fun x => vs.map fun y => Value.bool (vi x == vi y)) = (eqs ns).map Value.bool := by
  rw [← vi_map h, eqs]
  simp only [List.flatMap_map, List.map_flatMap, List.map_map, Function.comp_def]
theorem bools_carried : ∀ bs : List Bool, CarriedAll (bs.map Value.bool) (bs.map PyData.bool)
  | [] => .nil
  | b :: r => .cons (.bool b) (bools_carried r)
section
variable {prog : Program} {w : World} {A : Around} {E : Value → Shared → Prop} {s : Shared} {h₀ : Heap} {L : Addr} {m : PySem.Str → Option Value} {env : Env} {Q : Value → Shared → Prop}
theorem eq_bools {a b : Addr} {bs cs : List Bool} (ha : s.heap.IsList a (bs.map Value.bool).toArray) (hb : s.heap.IsList b (cs.map Value.bool).toArray) (hu : A.units + 64 < cLine) (h : Q (.bool (decide (bs = cs))) s) :
    wpAny (model prog w) A (compareOp .Eq (.ref a) (.ref b)) Q E s :=
  eq_dataH (reads_newData ha (bools_carried bs)) (reads_newData hb (bools_carried cs)) (bools_shaped _) (bools_shaped _) hu (by simp only [PyData.eqv, eqvAll_bools]; exact h)
theorem ne_ints {a b : Addr} {xs ys : List Value} {ns ms : List Int} (ha : s.heap.IsList a xs.toArray) (hb : s.heap.IsList b ys.toArray) (hi : IntsAre xs ns) (hj : IntsAre ys ms) (he : ns = ms) (hu : A.units + 64 < cLine) (h : Q (.bool false) s) :
    wpAny (model prog w) A (compareOp .NotEq (.ref a) (.ref b)) Q E s := by
  subst he
  exact ne_dataH (reads_newData ha hi.carried) (reads_newData hb hj.carried) (ints_shaped _) (ints_shaped _) hu (by simp only [PyData.eqv, eqvAll_ints, decide_true, Bool.not_true]; exact h)
theorem two_eq {a b z : PySem.Str} {p1 p2 p3 pa pb pz pz' : Pos} {scope : Scope} {pos : Pos} {cl : List (PySem.Str × Addr)} {lx c : Addr} {oc : Obj} {xs : List Value} {ns : List Int} {nx : Nat} {news : List (Addr × Obj)}
    (F : Fr h₀ L s.heap m) (N : News h₀ L s.heap news) (hh : A.handled = none) (hi : IntsAre xs ns) (hlx : (lx, listOf xs.toArray nx) ∈ news) (hcm : (c, oc) ∈ news) (hoc : oc.data = .cell (some (.ref lx))) (hsz : xs.length * xs.length ≤ sizeLine)
    (hclos : closureFor scope env = pure cl) (hcell : ∀ y ∈ scope.names, y.2 ≠ .cell) (hkind : scope.kind = .function)
    (hnames : ∀ y ∈ scope.names, y.2 = .local → scope.names.lookup y.1 = some .local) (hx : scope.names.lookup a = some .local) (hb : scope.names.lookup b = some .local) (hab : a ≠ b)
    (hda : (a == ("__debug__" : PySem.Str)) = false) (hdb : (b == ("__debug__" : PySem.Str)) = false) (hdz : (z == ("__debug__" : PySem.Str)) = false)
    (hek : env.scope.kind = .function) (hzk : env.kindOf z = some .cell) (hzc : env.cells.lookup z = some c) (hzl : cl.lookup z = some c) (hzi : ∀ C, (compEnvC scope cl C env).kindOf z = some .cell)
    (hm1 : behindInMarks .Eq (.Name b p2) = false)
    (ret : ∀ D h tk, Fr h₀ L h m → News h₀ L h ((D, listOf ((eqs ns).map Value.bool).toArray ((eqs ns).map Value.bool).length) :: news) → (∀ p ∈ news, @Ne Nat D p.1) → Q (.ref D) { s with heap := h, toks := tk })
    (hs : ∀ x, foldedSetIterable (.Name z pz) env x = pure x := by intro _; rfl) (hfs : ∀ C x, foldedSetIterable (.Name z pz') (compEnvC scope cl C env) x = pure x := by intro _ _; rfl) :
    wpAny (model prog w) A (eval (.ListComp (.Compare (.Name a p1) [.Eq] [.Name b p2] p3) [⟨.Name a pa, .Name z pz, [], 0⟩, ⟨.Name b pb, .Name z pz', [], 0⟩] scope pos) env) Q E s := by
  refine ListComp_two (f := fun x y => vi x == vi y) F N hh hclos hcell hkind hnames hx hb hab hlx hlx hsz (fun Q' q => ?_) (fun C h tk Q' E' N' q => ?_) (fun C x y m₂ h tk Q' E' hxm hym hC h1 h2 q => ?_) (fun D h tk F' N' hne => ?_) hs hfs
  · exact wpAny_Name (wpAny_loadName_cell hek hzk hzc ⟨oc, (N _ hcm).1, hoc⟩ q) hdz
  · exact wpAny_Name (wpAny_loadName_cell (by exact hkind) (hzi C) hzl ⟨oc, (N' _ hcm).1, hoc⟩ q) hdz
  · obtain ⟨n1, t1, rfl⟩ := vi_mem hi x hxm
    obtain ⟨n2, t2, rfl⟩ := vi_mem hi y hym
    refine wpAny_Compare1 (wpAny_Name (wpAny_loadName_local (by exact hkind) (lookup_relabel_local hx) hC h1 ?_) hda) hm1
    refine wpAny_Name (wpAny_loadName_local (by exact hkind) (lookup_relabel_local hb) hC h2 ?_) hdb
    exact PyProof.Rows.eq_int (q tk)
  · rw [eqs_vals hi] at N'
    exact ret D h tk F' N' hne
end
theorem flatMap_congr' {α β : Type} {l : List α} {f g : α → List β} (h : ∀ a ∈ l, f a = g a) : l.flatMap f = l.flatMap g := by
  induction l with
  | nil => rfl
  | cons a r ih => rw [List.flatMap_cons, List.flatMap_cons, h a (.head _), ih fun x hx => h x (.tail _ hx)]
/-- labels are equal where the numbers are -/
theorem eqs_same {N : List Int} (hn : N.Nodup) {labs : List Nat} (hl : ∀ l ∈ labs, l < N.length) {flat : List Int} (hf : (labs.map fun l => N.getD l 0) = flat) : eqs (labs.map Int.ofNat) = eqs flat := by
  subst hf
  unfold eqs
  rw [List.flatMap_map, List.flatMap_map]
  refine flatMap_congr' fun a ha => ?_
  rw [List.map_map, List.map_map]
  refine List.map_congr_left fun b hb => ?_
  simp only [Function.comp_apply]
  rw [Bool.eq_iff_iff, beq_iff_eq, beq_iff_eq]
  constructor
  · intro e
    have : a = b := Int.ofNat.inj e
    rw [this]
  · intro e
    rw [getD_inj hn (hl a ha) (hl b hb) e]
theorem flats_three (f1 f2 f3 : Fo) : flats [f1, f2, f3] 3 = (f1.num :: f1.pre) ++ (f2.num :: f2.pre) ++ (f3.num :: f3.pre) := by
  simp [flats]
end Mine
end
section
open PySem PySem.W PySem.Calls PyProof.Rows
set_option maxRecDepth 100000
namespace Mine
/-- a statement kept for the next part -/
structure Cut (P : Prop) : Prop where
  out : P
theorem lines_K1 : True := by
  w_top off
  k_with_none
  k_with "call type:zip" => (k_here; (with_reducible show wpAny _ _ (call (Value.type _) [Value.ref _, Value.ref _]) _ _ _); refine Mine.unheld ?_)
  k_with "call ref" => (k_here; (with_reducible show wpAny _ _ (call (Value.ref _) _) _ _ _); refine Mine.unheld ?_)
  k_with "CompSrc" => (k_here; refine Mine.unheld ?_)
  k_with "CompSrcT" => (k_here; refine Mine.unheld ?_)
  trivial
set_option maxHeartbeats 40000000 in
noncomputable def cut1 : PSigma (fun P : Prop => Cut P → PySem.Challenge.rw_rw0103_01.Holds) := ⟨_, fun hCut => hd (by
  k_go0
  rename Fr _ _ _ _ => F1
  rename News _ _ _ _ => N1
  rename CellsAre _ _ _ => Y1
  rename Heap.IsList _ _ _ => hSL
  rename IntsAre _ _ => hSI
  rename World => w
  rename Below callerA _ _ _ => B0
  rename Top _ _ _ _ _ _ => T0
  rename Frag.In _ _ => X0
  rename_i sns _ _ _ _ _ _ _ sa svs _ _ _ _ _ hlen _ _ h1 tk1 o1 o2 o3 d1 d2 d3
  rename Shared => s1
  replace F1 : Fr s1.heap s1.heap.objs.size h1 (fun y => if y = Str.ofString "script" then some (.ref sa) else none) := by with_unfolding_all exact F1
  replace d1 : o1.data = Data.cell none := d1.trans (by with_unfolding_all rfl)
  replace d2 : o2.data = Data.cell none := d2.trans (by with_unfolding_all rfl)
  replace d3 : o3.data = Data.cell none := d3.trans (by with_unfolding_all rfl)
  clear Y1
  replace B0 : Below callerA s1.heap [] s1.heap := B0
  have hI := And.intro trivial hSI
  have kM : KstMark := kstMark
  generalize hr : (Stmt.For _ _ _ _ _ :: _ : List Stmt) = rest
  k_steps
  subst hr
  refine wpAny_execs_cons ?_
  rename Fr _ _ _ _ => F3
  rename News _ _ _ _ => N3
  rename_i lPr _ lPrl _ oP dP lNu _ lNul _
  (with_unfolding_all refine' For_turns F3 ?hf ?hs ?hE)
  case hs => intro _; rfl
  case hE => passes_own
  k_steps
  rename Fr _ _ _ _ => F4
  rename News _ _ _ _ => N4
  rename IntsAre _ (List.take 10 sns ++ _) => hY
  rename_i lOwn _ lOwnl _ _ _ _ _ _ _ _ _ _ _ _ _ _ _ _ _ _ _ lY ys _ lYl
  have hOw : IntsAre [Value.int 180 (tk + 1), Value.int 61 (tk + 1 + 1), Value.int 481 (tk + 1 + 1 + 1), Value.int 2 (tk + 1 + 1 + 1 + 1), Value.int 240 (tk + 1 + 1 + 1 + 1 + 1), Value.int 120 (tk + 1 + 1 + 1 + 1 + 1 + 1), Value.int 360 (tk + 1 + 1 + 1 + 1 + 1 + 1 + 1), Value.int 241 (tk + 1 + 1 + 1 + 1 + 1 + 1 + 1 + 1), Value.int 122 (tk + 1 + 1 + 1 + 1 + 1 + 1 + 1 + 1 + 1), Value.int 361 (tk + 1 + 1 + 1 + 1 + 1 + 1 + 1 + 1 + 1 + 1)] ([180, 61, 481, 2, 240, 120, 360, 241, 122, 361] : List Int) := by repeat (first | exact IntsAre.nil | refine IntsAre.cons _ _ ?_)
  have hlO := News.isList N4 (items := List.toArray [Value.int 180 (tk + 1), Value.int 61 (tk + 1 + 1), Value.int 481 (tk + 1 + 1 + 1), Value.int 2 (tk + 1 + 1 + 1 + 1), Value.int 240 (tk + 1 + 1 + 1 + 1 + 1), Value.int 120 (tk + 1 + 1 + 1 + 1 + 1 + 1), Value.int 360 (tk + 1 + 1 + 1 + 1 + 1 + 1 + 1), Value.int 241 (tk + 1 + 1 + 1 + 1 + 1 + 1 + 1 + 1), Value.int 122 (tk + 1 + 1 + 1 + 1 + 1 + 1 + 1 + 1 + 1), Value.int 361 (tk + 1 + 1 + 1 + 1 + 1 + 1 + 1 + 1 + 1 + 1)]) (a := lOwn) (.tail _ (.tail _ (.tail _ (.tail _ (.head _)))))
  have hlY := News.isList N4 (items := ys.toArray) (a := lY) (.head _)
  obtain ⟨pv, hpv, N5⟩ : ∃ pv, IntsAre pv PR ∧ News s1.heap s1.heap.objs.size _ [(lNu, listOf (List.toArray []) 0), (lPr, listOf pv.toArray 0), (s1.heap.objs.size + 1 + 1 + 1, o1), (s1.heap.objs.size + 1 + 1, o2), (s1.heap.objs.size + 1, oP)] := ⟨PRv tk1, prv_ints tk1, news_sub N4 (by ((try dsimp only); (repeat (first | with_reducible exact fun _ h => h | with_reducible exact sub_nil | (with_reducible refine sub_cons ?_ ?_; (focus first | ((repeat (first | with_reducible exact List.mem_cons_self | with_reducible refine List.mem_cons_of_mem _ ?_)); done) | ((repeat (first | with_unfolding_all exact List.Mem.head _ | refine List.Mem.tail _ ?_)); done))) | with_reducible refine sub_skip ?_))))⟩
  have hnO : @Ne Nat s1.heap.objs.size lOwn := Ne.symm (N4 (lOwn, _) (.tail _ (.tail _ (.tail _ (.tail _ (.head _)))))).2.1
  have hnY : @Ne Nat s1.heap.objs.size lY := Ne.symm (N4 (lY, _) (.head _)).2.1
  clear N4 hSI
  show wpAny _ _ (call _ _) _ _ _
  have hyl : ys.length = (List.take 10 sns ++ (List.replicate (Int.toNat 10) [(0 : Int)]).flatten).length := hY.length
  with_unfolding_all refine' zl_loop (m₀ := _) (by rfl) F4 N5 hlO hlY hnO hnY ?n1 ?n2 (fun i m nx => (∀ z, [Str.ofString "own", Str.ofString "x"].contains z = false → m z = (if z = Str.ofString "numbers" then some (Value.ref lNu) else if z = Str.ofString "script" then some (Value.ref sa) else none)) ∧ ∃ (nums : List Int) (nv : List Value) (kn : Nat), nx = (lNu, listOf nv.toArray kn) :: [(lPr, listOf pv.toArray 0), (s1.heap.objs.size + 1 + 1 + 1, o1), (s1.heap.objs.size + 1 + 1, o2), (s1.heap.objs.size + 1, oP)] ∧ IntsAre nv nums ∧ nums.length = i ∧ i ≤ 10) ?hj ?turn ?done
  case n1 =>
    (repeat (first | exact each_nil | refine each_cons (by (refine neN ?_; (try dsimp only); omega)) ?_))
  case n2 =>
    (repeat (first | exact each_nil | refine each_cons (by (refine neN ?_; (try dsimp only); omega)) ?_))
  case hj => exact ⟨fun _ _ => rfl, [], [], 0, rfl, .nil, rfl, by omega⟩
  case turn =>
    intro i x y T m1 nx h9 tk9 own hx hy hT ha hoff hinv F9 N9
    refine shut fun P9 hP9 => ?_
    obtain ⟨hm1, nums, nv, kn, rfl, hnv, hnl, hi10⟩ := hinv
    replace F9 := fr_stored hm1 F9
    have hix : i < 10 := by
      have := (List.getElem?_eq_some_iff.mp hx).1
      simpa using this
    obtain ⟨c, ct, rfl, _⟩ := IntsAre.at hOw i x hx
    obtain ⟨c2, ct2, rfl, _⟩ := IntsAre.at hY i y hy
    clear hx hy hOw hY
    simp only [List.cons_append, List.nil_append, List.map_cons, List.map_nil] at F9 N9 hoff
    refine hP9 ?_
    clear hP9
    simp only [List.cons_append, List.nil_append, List.map_cons, List.map_nil]
    refine Mine.hold2 fun Q7 E7 hQ7 hE7 => ?_
    clear hE7
    k_steps
    refine hQ7 _ _ ?_
    clear hQ7
    refine Mine.hold2 fun Q9 E9 hQ9 hE9 => ?_
    clear hE9
    k_steps
    refine hQ9 _ _ ?_
    rename Fr _ _ _ _ => FE
    rename News _ _ _ _ => NE
    rw [List.push_toArray] at NE
    rename_i _ Fz Nz _ _ tkz _
    clear Fz Nz
    refine InvEndN.intro (nx := (lNu, listOf (nv ++ [Value.int (c + c2.fmod (10 ^ Int.toNat 6)) (tkz + 1 + 1 + 1 + 1)]).toArray (kn + 1)) :: [(lPr, listOf pv.toArray 0), (s1.heap.objs.size + 1 + 1 + 1, o1), (s1.heap.objs.size + 1 + 1, o2), (s1.heap.objs.size + 1, oP)]) FE NE ⟨?_, nums ++ [c + c2.fmod (10 ^ Int.toNat 6)], _, _, rfl, IntsAre.append hnv (.cons _ _ .nil), by simp [hnl], by omega⟩ rfl ?_ ?_
    · intro z hz
      simp only [List.contains_cons, List.contains_nil, Bool.or_false, Bool.or_eq_false_iff, beq_eq_false_iff_ne, ne_eq] at hz
      simp [hz.1, hz.2]
    · ((try dsimp only); (repeat (first | with_reducible exact fun _ h => h | with_reducible exact sub_nil | (with_reducible refine sub_cons ?_ ?_; (focus first | ((repeat (first | with_reducible exact List.mem_cons_self | with_reducible refine List.mem_cons_of_mem _ ?_)); done) | ((repeat (first | with_unfolding_all exact List.Mem.head _ | refine List.Mem.tail _ ?_)); done))) | with_reducible refine sub_skip ?_)))
    · intro p hp
      repeat (first | assumption | refine List.Mem.tail _ ?_)
  case done =>
    intro m1 nx h9 tk9 hinv
    refine shut fun P9 hP9 => ?_
    obtain ⟨hm1, nums, nv, kn, rfl, hnv, hnl, hi10⟩ := hinv
    refine hP9 ?_
    clear hP9
    intro _ F9 N9
    replace F9 := fr_stored hm1 F9
    have hn10 : nums.length = 10 := by
      rw [hnl, List.size_toArray, List.size_toArray, hyl]
      simp
    clear hnl hi10 hlO hlY hOw hY hyl F4 N5 hm1
    dsimp only
    generalize hlc : Expr.ListComp _ _ _ _ = lc
    k_steps
    show wpAny _ _ (call _ _) _ _ _
    rename Fr _ _ _ _ => F5
    rename News _ _ _ _ => N6
    rename IntsAre _ (List.take 5 nums) => hd5
    (with_unfolding_all refine' use_drawn hd5 (by simp [hn10]) (News.isList N6 (.head _)) B0 F5 X0 N6 T0 rfl ?d ?u ?_)
    case d => simp only [depth_caller, recursionLimit]; omega
    case u => have hcL9 := cLine_is; simp only [units_caller]; omega
    intro f1 ft1 h10 tk10 f1k f1s F6 N7
    clear F5 N6
    k_steps
    show wpAny _ _ (call _ _) _ _ _
    rename Fr _ _ _ _ => F5
    rename News _ _ _ _ => N6
    rename IntsAre _ (List.drop 5 nums) => hd6
    (with_unfolding_all refine' use_drawn hd6 (by simp [hn10]) (News.isList N6 (.head _)) B0 F5 X0 N6 T0 rfl ?d ?u ?_)
    case d => simp only [depth_caller, recursionLimit]; omega
    case u => have hcL9 := cLine_is; simp only [units_caller]; omega
    intro f2 ft2 h11 tk11 f2k f2s F6 N7
    have N8 : News s1.heap s1.heap.objs.size h11 [(lNu, listOf nv.toArray kn), (lPr, listOf pv.toArray 0), (s1.heap.objs.size + 1 + 1 + 1, o1), (s1.heap.objs.size + 1 + 1, o2), (s1.heap.objs.size + 1, oP)] := fun p hp => N7 p (.tail _ (.tail _ hp))
    clear F5 N6 N7 hd5 hd6
    have hf1l := Fo.len_txt f1
    have hf2l := Fo.len_txt f2
    k_steps
    rw [← hlc]
    clear hlc lc
    rename Fr _ _ _ _ => F5
    rename News _ _ _ _ => N6
    rename_i lTx _ lTxl _
    generalize hr : (Stmt.If _ _ _ _ :: _ : List Stmt) = rest
    k_dflt (refine LCg.Assign_ListComp_U (F₀ := F5) (by rfl) (by with_unfolding_all rfl) (by with_unfolding_all rfl) (by decide) (by rfl) (by decide) (by rfl) (by rfl) (by rfl) ?_)
    k_steps
    show LCg.CompSrc _ _ _ _ _ _ _ _ _ _ _ _ _ _
    refine LCg.CompSrc.ledger (by rfl) F5 N6 (.head _) (by rw [sizeLine_eq]; simp) ?_
    intro g4
    refine comp_inv 2 (fun i ys news => ∃ bl : List (Addr × List Value × Nat), bl.length = i ∧ ys = bl.map (fun b => Value.ref b.1) ∧ news = (lTx, listOf #[Value.str (sOf f1.txt) ft1, Value.str (sOf f2.txt) ft2] 0) :: (lNu, listOf nv.toArray kn) :: (lPr, listOf pv.toArray 0) :: (s1.heap.objs.size + 1 + 1 + 1, o1) :: (s1.heap.objs.size + 1 + 1, o2) :: (s1.heap.objs.size + 1, oP) :: bl.map (fun b => (b.1, listOf b.2.1.toArray b.2.2)) ∧ (∀ b ∈ bl, b.1 ≠ lTx) ∧ ∀ j b, bl[j]? = some b → IntsAre b.2.1 ((if j = 0 then f1 else f2).num :: (if j = 0 then f1 else f2).pre)) ?fin4 ?turn4 2 0 [] _ (by omega) ⟨[], rfl, rfl, rfl, (fun _ h => nomatch h), (fun _ _ h => nomatch h)⟩
    case turn4 =>
      rintro i ys news v I oI C oC D m2 h3 tk3 E' hi ⟨bl, hbl, rfl, rfl, hbt, hbi⟩ hv hC hm2 F5 N5 o3f ne3
      obtain ⟨vt, rfl⟩ : ∃ vt, v = .str (sOf (if i = 0 then f1 else f2).txt) vt := by
        match i, hi, hv with
        | 0, _, hv => exact ⟨ft1, (Option.some.inj hv).symm⟩
        | 1, _, hv => exact ⟨ft2, (Option.some.inj hv).symm⟩
      have hfs : (if i = 0 then f1 else f2).size = 5 := by split <;> assumption
      generalize hfi : (if i = 0 then f1 else f2) = fi at hfs hv hm2
      have hfl := Fo.len_txt fi
      generalize hbm : bl.map (fun b => (b.1, listOf b.2.1.toArray b.2.2)) = tl4 at N5 o3f
      k_steps
      show wpAny _ _ (call _ _) _ _ _
      rename Fr _ _ _ _ => F5
      rename News _ _ _ _ => N6
      (with_unfolding_all refine' use_told (by omega) (txt_br fi) hpv (five_run hfs) (News.isList (items := pv.toArray) (a := lPr) N6 (by k_memK)) B0 F5 X0 N6 T0 rfl ?d ?u ?_)
      case d => simp only [depth_caller, recursionLimit]; omega
      case u => have hcL9 := cLine_is; simp only [units_caller]; omega
      intro b1 rv1 kb1 h12 tk12 hb1 F6 N7 hne1
      subst hbm
      refine LCg.CompEnd.intro F6 N7 ((lTx, listOf #[Value.str (sOf f1.txt) ft1, Value.str (sOf f2.txt) ft2] 0) :: (lNu, listOf nv.toArray kn) :: (lPr, listOf pv.toArray 0) :: (s1.heap.objs.size + 1 + 1 + 1, o1) :: (s1.heap.objs.size + 1 + 1, o2) :: (s1.heap.objs.size + 1, oP) :: (bl ++ [(b1, rv1, kb1)]).map (fun b => (b.1, listOf b.2.1.toArray b.2.2))) ?sub4 ?off4 (.inr ⟨_, .head _, rfl, _, rfl⟩) ⟨bl ++ [(b1, rv1, kb1)], by simp [hbl], by simp, rfl, ?bt4, ?bi4⟩
      case sub4 =>
        intro p hp
        rw [List.map_append] at hp
        simp only [List.mem_cons, List.mem_append, List.map_cons, List.map_nil, List.not_mem_nil, or_false] at hp ⊢
        rcases hp with rfl | rfl | rfl | rfl | rfl | rfl | rfl | rfl | rfl | hp | rfl <;> simp only [true_or, or_true, *]
      case off4 =>
        refine LCg.Off3.of fun p hp => ?_
        rw [List.map_append] at hp
        simp only [List.mem_cons, List.mem_append, List.map_cons, List.map_nil, List.not_mem_nil, or_false] at hp
        have ho := o3f.mem
        rcases hp with rfl | rfl | rfl | rfl | rfl | rfl | hp | rfl
        · exact ho _ (.head _)
        · exact ho _ (.tail _ (.head _))
        · exact ho _ (.tail _ (.tail _ (.head _)))
        · exact ho _ (.tail _ (.tail _ (.tail _ (.head _))))
        · exact ho _ (.tail _ (.tail _ (.tail _ (.tail _ (.head _)))))
        · exact ho _ (.tail _ (.tail _ (.tail _ (.tail _ (.tail _ (.head _))))))
        · exact ho _ (.tail _ (.tail _ (.tail _ (.tail _ (.tail _ (.tail _ hp))))))
        · exact ⟨hne1 _ (.head _), hne1 _ (.tail _ (.head _)), hne1 _ (.tail _ (.tail _ (.head _)))⟩
      case bt4 =>
        intro b hb
        rcases List.mem_append.mp hb with hb | hb
        · exact hbt b hb
        · rw [List.mem_singleton.mp hb]
          exact hne1 _ (.tail _ (.tail _ (.tail _ (.head _))))
      case bi4 =>
        intro j b hj
        rcases Nat.lt_or_ge j bl.length with hlt | hge
        · rw [List.getElem?_append_left hlt] at hj
          exact hbi j b hj
        · rw [List.getElem?_append_right hge] at hj
          have hj0 : j - bl.length = 0 := by
            rcases Nat.eq_zero_or_pos (j - bl.length) with h | h
            · exact h
            · rw [List.getElem?_eq_none (by simp only [List.length_singleton]; omega)] at hj; cases hj
          rw [hj0] at hj
          obtain rfl := Option.some.inj hj
          have hji : j = i := by omega
          rw [hji, hfi]
          exact hb1
    case fin4 =>
      intro ys news hbl0
      refine shut fun P9 hP9 => ?_
      obtain ⟨bl, hbl, rfl, rfl, hbt, hbi⟩ := hbl0
      obtain ⟨⟨b1, rv1, kb1⟩, ⟨b2, rv2, kb2⟩, rfl⟩ : ∃ x y, bl = [x, y] := by
        match bl, hbl with
        | [x, y], _ => exact ⟨x, y, rfl⟩
      refine hP9 ?_
      clear hP9 P9
      have hb1 : IntsAre rv1 (f1.num :: f1.pre) := hbi 0 _ rfl
      have hb2 : IntsAre rv2 (f2.num :: f2.pre) := hbi 1 _ rfl
      have hbx1 : @Ne Nat b1 lTx := hbt _ (.head _)
      have hbx2 : @Ne Nat b2 lTx := hbt _ (.tail _ (.head _))
      clear hbi hbt hbl
      intro lTo h12 tk12 F6 N7 o1f
      simp only [List.map_cons, List.map_nil] at F6 N7 o1f
      clear F5 N6
      have hbc : (@Ne Nat b1 (s1.heap.objs.size + 1 + 1 + 1) ∧ @Ne Nat b1 (s1.heap.objs.size + 1 + 1)) ∧ (@Ne Nat b2 (s1.heap.objs.size + 1 + 1 + 1) ∧ @Ne Nat b2 (s1.heap.objs.size + 1 + 1)) := ⟨⟨ne_cell N7 (by k_memK) (by k_memK) d1, ne_cell N7 (by k_memK) (by k_memK) d2⟩, ne_cell N7 (by k_memK) (by k_memK) d1, ne_cell N7 (by k_memK) (by k_memK) d2⟩
      refine shut fun P9 hP9 => ?_
      obtain ⟨⟨hbc1, hbc2⟩, hbc3, hbc4⟩ := hbc
      refine hP9 ?_
      clear hP9 P9
      subst hr
      rename_i q1 q3 q4 q5 q6 q7 q8 q9 q10 q11 q12 q14 q15 q16 q18 q19 q20 q21 q22 q23 q24 q25 q26 q28 q29 q30 q31 q32 q33 q34 q37 q39 q40 q41 q42 q44 q45 q58 q60 q63 q65 q67 q69 q71 q72 q73 q74 q75 q76 q77 q78 q79 q80 q81 q82 q83 q84 q85 q86 q87 q88 q89 q92 q105 q107 q108 q109 q110 q111 q112 q119 q120 q121 q122 q123 q124 q134 q136
      revert w q1 s1 q3 q4 q5 q6 q7 q8 q9 q10 q11 q12 X0 q14 q15 q16 T0 q18 q19 q20 q21 q22 q23 q24 q25 q26 sns q28 q29 q30 q31 q32 q33 q34 sa svs q37 hSL q39 q40 q41 q42 hlen q44 q45 h1 tk1 o1 o2 o3 d1 d2 d3 B0 hI kM lPr q58 lPrl q60 oP dP q63 lNu q65 lNul q67 lOwn q69 lOwnl q71 q72 q73 q74 q75 q76 q77 q78 q79 q80 q81 q82 q83 q84 q85 q86 q87 q88 q89 lY ys q92 lYl pv hpv hnO hnY m1 h9 tk9 nums nv kn hnv q105 hn10 q107 q108 q109 q110 q111 q112 f1 ft1 h10 tk10 f1k f1s q119 q120 q121 q122 q123 q124 f2 ft2 h11 tk11 f2k f2s hf1l hf2l lTx q134 lTxl q136 tk g4 b1 rv1 kb1 b2 rv2 kb2 hb1 hb2 hbx1 hbx2 lTo h12 tk12 F6 N7 o1f hbc1 hbc2 hbc3 hbc4
      exact hCut.out)⟩
end Mine
end
section
open PySem PySem.W PySem.Calls PyProof.Rows
set_option maxRecDepth 100000
namespace Mine
theorem lines_K2 : True := by
  w_top off
  k_with_none
  k_with "call ref" => (k_here; (with_reducible show wpAny _ _ (call (Value.ref _) _) _ _ _); refine Mine.unheld ?_)
  k_with "CompSrc" => (k_here; refine Mine.unheld ?_)
  k_with "CompSrcT" => (k_here; refine Mine.unheld ?_)
  trivial
set_option maxHeartbeats 40000000 in
noncomputable def cut2 : PSigma (fun P : Prop => Cut P → (cut1).1) := ⟨_, fun hCut => (by
  intro hq0
  revert hq0
  k_fill
  intro w s₀ s1 mg mb G Y fa o pm doc ho hg X0 X V GL T0 B TE TW w_1 w_2 M w_3 w_4 hcd sns hs hlay0 hL hr hl2 w_5 w_6 sa svs w_7 hSL ra w1 r0 hr_1 hlen hcond' hD h1 tk1 o1 o2 o3 d1 d2 d3 B0 hI kM lPr h' lPrl h'_1 oP dP tk lNu h'_2 lNul h'_3 lOwn h'_4 lOwnl D' ws' h'_5 hI' hC' hL' l1 l' h'_6 l1_1 D'_1 h'_7 i1 n1 s1_1 e1 e2 e3 l1_2 lY ys h'_8 lYl pv hpv hnO hnY m1 h9 tk9 nums nv kn hnv a hn10 D'_2 ws'_1 h'_9 hC'_1 hL'_1 l1_3 f1 ft1 h10 tk10 f1k f1s D'_3 ws'_2 h'_10 hC'_2 hL'_2 l1_4 f2 ft2 h11 tk11 f2k f2s hf1l hf2l lTx h'_11 lTxl h'_12 tk_1 g4 b1 rv1 kb1 b2 rv2 kb2 hb1 hb2 hbx1 hbx2 lTo h12 tk12 F6 N7 o1f hbc1 hbc2 hbc3 hbc4
  refine shut fun P9 hP9 => ?_
  obtain ⟨ot1, ot2, ot3, ot4, ot5, ot6, ot7, ot8, _⟩ := o1f
  refine hP9 ?_
  clear hP9 P9
  k_steps
  rename Fr _ _ _ _ => F7
  rename News _ _ _ _ => N8
  (with_unfolding_all refine' in_told (News.isList (items := #[]) N8 (.head _)) (News.isList (items := #[.ref b1, .ref b2]) N8 (.tail _ (.head _))) (News.isList (items := rv1.toArray) (a := b1) N8 (by k_memK)) (News.isList (items := rv2.toArray) (a := b2) N8 (by k_memK)) hb1 hb2 ?u ?_)
  case u => have hcL9 := cLine_is; simp only [units_caller, Around.deeper]; omega
  generalize hr : (Stmt.Assign [Expr.Name (Str.ofString "ends") _] _ _ :: _ : List Stmt) = rest
  k_steps
  show wpAny _ _ (call _ _) _ _ _
  have hf1m := five f1s
  have hf1t := five_two f1s
  have hn1 : (f1.num :: f1.pre).getD (Int.toNat 0) 0 = ((f1.num.toNat : Nat) : Int) := by show f1.num = _; omega
  rw [hn1]
  (with_unfolding_all refine' use_written hpv (by omega) (by omega) (News.isList (items := pv.toArray) (a := lPr) N8 (by k_memK)) B0 F7 X0 N8 T0 rfl ?d ?u ?_)
  case d => simp only [depth_caller, recursionLimit]; omega
  case u => have hcL9 := cLine_is; simp only [units_caller]; omega
  intro ft3 h13 tk13 F6 N7
  clear F7 N8
  refine shut fun P9 hP9 => ?_
  obtain ⟨hW1, hW2, hW3, hW4⟩ := W_all f1.num.toNat (by omega) (by omega)
  refine hP9 ?_
  clear hP9 P9
  have hW5 := W_pos f1.num.toNat (by omega) (by omega)
  generalize hf3 : W f1.num.toNat = f3 at *
  have hf3l := Fo.len_txt f3
  k_steps
  show wpAny _ _ (call _ _) _ _ _
  rename Fr _ _ _ _ => F7
  rename News _ _ _ _ => N8
  (with_unfolding_all refine' use_told (by omega) (txt_br f3) hpv (run_all f3 hW2) (News.isList (items := pv.toArray) (a := lPr) N8 (by k_memK)) B0 F7 X0 N8 T0 rfl ?d ?u ?_)
  case d => simp only [depth_caller, recursionLimit]; omega
  case u => have hcL9 := cLine_is; simp only [units_caller]; omega
  intro b3 rv3 kb3 h14 tk14 hb3 F6 N7 hne3
  clear F7 N8
  have hn31 : @Ne Nat b3 lTo := hne3 _ (.tail _ (.head _))
  have hn32 : @Ne Nat b3 lTx := hne3 _ (.tail _ (.tail _ (.head _)))
  have hbc5 : @Ne Nat b3 (s1.heap.objs.size + 1 + 1 + 1) := hne3 (_, o1) (by k_memK)
  have hbc6 : @Ne Nat b3 (s1.heap.objs.size + 1 + 1) := hne3 (_, o2) (by k_memK)
  clear hne3
  k_steps
  rename Fr _ _ _ _ => F8
  rename News _ _ _ _ => N9
  simp only [List.push_toArray, List.cons_append, List.nil_append, List.length_cons, List.length_nil] at N9
  have N10 := News.subL N9 (l := [(lTo, listOf (List.toArray [Value.ref b1, Value.ref b2, Value.ref b3]) 3), (lTx, listOf (List.toArray [Value.str (sOf f1.txt) ft1, Value.str (sOf f2.txt) ft2, Value.str (sOf f3.txt) ft3]) 1), (lNu, listOf nv.toArray kn), (lPr, listOf pv.toArray 0), (s1.heap.objs.size + 1 + 1 + 1, o1), (s1.heap.objs.size + 1 + 1, o2), (s1.heap.objs.size + 1, oP), (b1, listOf rv1.toArray kb1), (b2, listOf rv2.toArray kb2), (b3, listOf rv3.toArray kb3)]) (by k_subL)
  clear N9
  subst hr
  rename_i q63 q164 q165 q166 q167 q168 q169 q184 q196
  revert w s₀ s1 mg mb G Y fa o pm doc ho hg X0 X V GL T0 B TE TW w_1 w_2 M w_3 w_4 hcd sns hs hlay0 hL hr hl2 w_5 w_6 sa svs w_7 hSL ra w1 r0 hr_1 hlen hcond' hD h1 tk1 o1 o2 o3 d1 d2 d3 B0 hI kM lPr h' lPrl h'_1 oP dP q63 lNu h'_2 lNul h'_3 lOwn h'_4 lOwnl D' ws' h'_5 hI' hC' hL' l1 l' h'_6 l1_1 D'_1 h'_7 i1 n1 s1_1 e1 e2 e3 l1_2 lY ys h'_8 lYl pv hpv hnO hnY m1 h9 tk9 nums nv kn hnv a hn10 D'_2 ws'_1 h'_9 hC'_1 hL'_1 l1_3 f1 ft1 h10 tk10 f1k f1s D'_3 ws'_2 h'_10 hC'_2 hL'_2 l1_4 f2 ft2 h11 tk11 f2k f2s hf1l hf2l lTx h'_11 lTxl h'_12 tk_1 g4 b1 rv1 kb1 b2 rv2 kb2 hb1 hb2 hbx1 hbx2 lTo h12 tk12 hbc1 hbc2 hbc3 hbc4 ot1 ot2 ot3 ot4 ot5 ot6 ot7 ot8 q164 q165 q166 q167 q168 q169 hf1m hf1t hn1 ft3 h13 tk13 f3 hf3 hW1 hW2 hW3 hW4 hW5 hf3l q184 tk b3 rv3 kb3 h14 tk14 hb3 hn31 hn32 hbc5 hbc6 q196 F8 N10
  exact hCut.out)⟩
end Mine
end
section
open PySem PySem.W PySem.Calls PyProof.Rows
set_option maxRecDepth 100000
namespace Mine
theorem lines_K3 : True := by
  w_top off
  k_with_none
  k_with "call ref" => (k_here; (with_reducible show wpAny _ _ (call (Value.ref _) _) _ _ _); refine Mine.unheld ?_)
  k_with "CompSrc" => (k_here; refine Mine.unheld ?_)
  k_with "CompSrcT" => (k_here; refine Mine.unheld ?_)
  trivial
set_option maxHeartbeats 40000000 in
noncomputable def cut3 : PSigma (fun P : Prop => Cut P → (cut2).1) := ⟨_, fun hCut => (by
  intro hq0
  revert hq0
  k_fill
  intro w s₀ s1 mg mb G Y fa o pm doc ho hg X0 X V GL T0 B TE TW w_1 w_2 M w_3 w_4 hcd sns hs hlay0 hL hr hl2 w_5 w_6 sa svs w_7 hSL ra w1 r0 hr_1 hlen hcond' hD h1 tk1 o1 o2 o3 d1 d2 d3 B0 hI kM lPr h' lPrl h'_1 oP dP tk lNu h'_2 lNul h'_3 lOwn h'_4 lOwnl D' ws' h'_5 hI' hC' hL' l1 l' h'_6 l1_1 D'_1 h'_7 i1 n1 s1_1 e1 e2 e3 l1_2 lY ys h'_8 lYl pv hpv hnO hnY m1 h9 tk9 nums nv kn hnv a hn10 D'_2 ws'_1 h'_9 hC'_1 hL'_1 l1_3 f1 ft1 h10 tk10 f1k f1s D'_3 ws'_2 h'_10 hC'_2 hL'_2 l1_4 f2 ft2 h11 tk11 f2k f2s hf1l hf2l lTx h'_11 lTxl h'_12 tk_1 g4 b1 rv1 kb1 b2 rv2 kb2 hb1 hb2 hbx1 hbx2 lTo h12 tk12 hbc1 hbc2 hbc3 hbc4 ot1 ot2 ot3 ot4 ot5 ot6 ot7 ot8 right l'_1 h'_13 l1_5 tk_2 t hf1m hf1t hn1 ft3 h13 tk13 f3 hf3 hW1 hW2 hW3 hW4 hW5 hf3l h'_14 tk_3 b3 rv3 kb3 h14 tk14 hb3 hn31 hn32 hbc5 hbc6 h'_15 F8 N10
  generalize hr : (Stmt.Assign [Expr.Tuple _ _ _] _ _ :: _ : List Stmt) = rest
  k_dflt (refine wpAny_execs_cons ?_)
  k_dflt (refine LCg.Assign_ListComp_U (F₀ := F8) (by rfl) (by with_unfolding_all rfl) (by with_unfolding_all rfl) (by decide) (by rfl) (by decide) (by rfl) (by rfl) (by rfl) ?_)
  k_steps
  show LCg.CompSrc _ _ _ _ _ _ _ _ _ _ _ _ _ _
  refine LCg.CompSrc.ledger (by rfl) F8 N10 (ax := lNu) (.tail _ (.tail _ (.head _))) (by rw [sizeLine_eq, List.size_toArray, hnv.length, hn10]; decide) ?_
  intro g5
  have hnl : nv.toArray.size = 10 := by rw [List.size_toArray, hnv.length, hn10]
  rw [hnl]
  generalize hled : (lTo, listOf (List.toArray [Value.ref b1, Value.ref b2, Value.ref b3]) 3) :: _ = led at N10
  have hmN : (lNu, listOf nv.toArray kn) ∈ led := by rw [← hled]; exact .tail _ (.tail _ (.head _))
  refine comp_inv 10 (fun i ys news => ∃ es : List (List Nat), es.length = i ∧ StrsAre ys (es.map sOf) ∧ (∀ e ∈ es, isEnd e) ∧ news = led) ?fin5 ?turn5 10 0 [] _ (by omega) ⟨[], rfl, .nil, (fun _ h => nomatch h), rfl⟩
  case turn5 =>
    rintro i ys news v I oI C oC D m2 h3 tk3 E' hi ⟨es, hel, hes, hee, rfl⟩ hv hC hm2 F5 N5 o3f ne3
    obtain ⟨c, ct, rfl, _⟩ := IntsAre.at hnv i v (by simpa using hv)
    clear hv
    k_steps
    rename Fr _ _ _ _ => F9
    rename News _ _ _ _ => N9
    (with_unfolding_all refine' ends_item (News.isList N9 (.head _)) ?_ ?_ ?_ ?_)
    · exact Int.fmod_nonneg_of_pos _ (by decide)
    · exact Int.fmod_lt_of_pos _ (by decide)
    · intro e t he
      refine LCg.CompEnd.intro F9 N9 news (fun p hp => .tail _ hp) o3f (.inr ⟨_, hmN, rfl, _, rfl⟩) ⟨es ++ [e], by simp [hel], ?_, ?_, rfl⟩
      · rw [List.map_append]
        exact StrsAre.append' hes (.cons _ _ .nil)
      · intro e' h'
        rcases List.mem_append.mp h' with h' | h'
        · exact hee _ h'
        · rw [List.mem_singleton.mp h']; exact he
    · with_unfolding_all rfl
  case fin5 =>
    rintro ev0 news ⟨es0, hel0, hes0, hee0, rfl⟩
    subst hled
    intro lEn h15 tk15 F11 N11 o2f
    refine shut fun P9 hP9 => ?_
    obtain ⟨oe1, oe2, oe3, oe4, oe5, oe6, oe7, oe8, oe9, oe10, _⟩ := o2f
    refine hP9 ?_
    clear hP9 P9
    clear F8 N10 hmN
    subst hr
    generalize hr : (Stmt.For _ _ _ _ _ :: _ : List Stmt) = rest
    k_steps
    rename Fr _ _ _ _ => F8
    rename News _ _ _ _ => N9
    rename_i lLb _ lLbl lKn _ lKnl _ _ _ _ _ oL dL _
    have N10 := News.subL N9 (l := [(s1.heap.objs.size + 1 + 1, oL), (lLb, listOf (List.toArray []) 0), (lEn, listOf ev0.toArray ev0.length), (lTo, listOf (List.toArray [Value.ref b1, Value.ref b2, Value.ref b3]) 3), (lTx, listOf (List.toArray [Value.str (sOf f1.txt) ft1, Value.str (sOf f2.txt) ft2, Value.str (sOf f3.txt) ft3]) 1), (lPr, listOf pv.toArray 0), (s1.heap.objs.size + 1 + 1 + 1, o1), (b1, listOf rv1.toArray kb1), (b2, listOf rv2.toArray kb2), (b3, listOf rv3.toArray kb3), (lKn, listOf (List.toArray []) 0)]) (by k_subL)
    obtain ⟨m9, hm9⟩ : ∃ m9, m9 = (fun z => if ([Str.ofString "own", Str.ofString "x"]).contains z = true then m1 z else if z = Str.ofString "numbers" then some (Value.ref lNu) else if z = Str.ofString "script" then some (Value.ref sa) else none) := ⟨_, rfl⟩
    replace F8 := Fr.of_eq F8 (m' := fun z => if z = Str.ofString "ends" then some (.ref lEn) else if z = Str.ofString "text" then m9 (Str.ofString "text") else if z = Str.ofString "known" then some (.ref lKn) else if z = Str.ofString "told" then some (.ref lTo) else if z = Str.ofString "texts" then some (.ref lTx) else m9 z) (by
      intro z
      subst hm9
      by_cases e1 : z = Str.ofString "ends"
      · subst e1; rfl
      · by_cases e2 : z = Str.ofString "text"
        · subst e2; rfl
        · simp only [e1, e2, if_false])
    have hlE : @Ne Nat lEn lKn := Nat.ne_of_lt lKnl.2.1
    have hlL : @Ne Nat lLb lKn := Nat.ne_of_lt lKnl.1
    have hlT : @Ne Nat lTo lKn := Nat.ne_of_lt lKnl.2.2.1
    have hlX : @Ne Nat lTx lKn := Nat.ne_of_lt lKnl.2.2.2.1
    have hlP : @Ne Nat lPr lKn := Nat.ne_of_lt lKnl.2.2.2.2.2.1
    have hlk1 : @Ne Nat b1 lKn := Nat.ne_of_lt lKnl.2.2.2.2.2.2.2.2.2.1
    have hlk2 : @Ne Nat b2 lKn := Nat.ne_of_lt lKnl.2.2.2.2.2.2.2.2.2.2.1
    have hlk3 : @Ne Nat b3 lKn := Nat.ne_of_lt lKnl.2.2.2.2.2.2.2.2.2.2.2
    clear lKnl lLbl N9 hm9
    subst hr
    rename_i q217 q219 q221 q222 q223 q224 q225 q226 q229
    revert w s₀ s1 mg mb G Y fa o pm doc ho hg X0 X V GL T0 B TE TW w_1 w_2 M w_3 w_4 hcd sns hs hlay0 hL hr hl2 w_5 w_6 sa svs w_7 hSL ra w1 r0 hr_1 hlen hcond' hD h1 tk1 o1 o2 o3 d1 d2 d3 B0 hI kM lPr h' lPrl h'_1 oP dP tk lNu h'_2 lNul h'_3 lOwn h'_4 lOwnl D' ws' h'_5 hI' hC' hL' l1 l' h'_6 l1_1 D'_1 h'_7 i1 n1 s1_1 e1 e2 e3 l1_2 lY ys h'_8 lYl pv hpv hnO hnY m1 h9 tk9 nums nv kn hnv a hn10 D'_2 ws'_1 h'_9 hC'_1 hL'_1 l1_3 f1 ft1 h10 tk10 f1k f1s D'_3 ws'_2 h'_10 hC'_2 hL'_2 l1_4 f2 ft2 h11 tk11 f2k f2s hf1l hf2l lTx h'_11 lTxl h'_12 tk_1 g4 b1 rv1 kb1 b2 rv2 kb2 hb1 hb2 hbx1 hbx2 lTo h12 tk12 hbc1 hbc2 hbc3 hbc4 ot1 ot2 ot3 ot4 ot5 ot6 ot7 ot8 right l'_1 h'_13 l1_5 tk_2 t hf1m hf1t hn1 ft3 h13 tk13 f3 hf3 hW1 hW2 hW3 hW4 hW5 hf3l h'_14 tk_3 b3 rv3 kb3 h14 tk14 hb3 hn31 hn32 hbc5 hbc6 h'_15 g5 hnl ev0 es0 hel0 hes0 hee0 lEn h15 tk15 oe1 oe2 oe3 oe4 oe5 oe6 oe7 oe8 oe9 oe10 q217 lLb q219 lKn q221 q222 q223 q224 q225 q226 oL dL q229 N10 m9 F8 hlE hlL hlT hlX hlP hlk1 hlk2 hlk3
    exact hCut.out)⟩
end Mine
end
section
open PySem PySem.W PySem.Calls PyProof.Rows
set_option maxRecDepth 100000
namespace Mine
theorem lines_K4 : True := by
  w_top off
  k_with_none
  k_with "call ref" => (k_here; (with_reducible show wpAny _ _ (call (Value.ref _) _) _ _ _); refine Mine.unheld ?_)
  k_with "binaryOp Add ref ref" => (k_here; (with_reducible show wpAny _ _ (binaryOp _ (Value.ref _) (Value.ref _)) _ _ _); k_dflt (refine Mine.add_vals (by k_asm) (by k_asm) (by is_list) (by is_list) (by ((try simp only [List.length_cons, List.length_nil, List.length_append] at *); omega)) ?_); intro D' h' F' N' l1; (try k_lt l1); (try k_sweep); revert D' h'; intros)
  trivial
local macro_rules | `(tactic| walk_at "pyIter ref") => `(tactic| (k_here; (with_reducible show wpAny _ _ (pyIter (Value.ref _)) _ _ _); refine Mine.unheld ?_))
set_option maxHeartbeats 40000000 in
noncomputable def cut4 : PSigma (fun P : Prop => Cut P → (cut3).1) := ⟨_, fun hCut => (by
  intro hq0
  revert hq0
  k_fill
  intro w s₀ s1 mg mb G Y fa o pm doc ho hg X0 X V GL T0 B TE TW w_1 w_2 M w_3 w_4 hcd sns hs hlay0 hL hr hl2 w_5 w_6 sa svs w_7 hSL ra w1 r0 hr_1 hlen hcond' hD h1 tk1 o1 o2 o3 d1 d2 d3 B0 hI kM lPr h' lPrl h'_1 oP dP tk lNu h'_2 lNul h'_3 lOwn h'_4 lOwnl D' ws' h'_5 hI' hC' hL' l1 l' h'_6 l1_1 D'_1 h'_7 i1 n1 s1_1 e1 e2 e3 l1_2 lY ys h'_8 lYl pv hpv hnO hnY m1 h9 tk9 nums nv kn hnv a hn10 D'_2 ws'_1 h'_9 hC'_1 hL'_1 l1_3 f1 ft1 h10 tk10 f1k f1s D'_3 ws'_2 h'_10 hC'_2 hL'_2 l1_4 f2 ft2 h11 tk11 f2k f2s hf1l hf2l lTx h'_11 lTxl h'_12 tk_1 g4 b1 rv1 kb1 b2 rv2 kb2 hb1 hb2 hbx1 hbx2 lTo h12 tk12 hbc1 hbc2 hbc3 hbc4 ot1 ot2 ot3 ot4 ot5 ot6 ot7 ot8 right l'_1 h'_13 l1_5 tk_2 t hf1m hf1t hn1 ft3 h13 tk13 f3 hf3 hW1 hW2 hW3 hW4 hW5 hf3l h'_14 tk_3 b3 rv3 kb3 h14 tk14 hb3 hn31 hn32 hbc5 hbc6 h'_15 g5 hnl ev0 es0 hel0 hes0 hee0 lEn h15 tk15 oe1 oe2 oe3 oe4 oe5 oe6 oe7 oe8 oe9 oe10 right_1 lLb h'_16 lKn h'_17 D'_4 h'_18 l1_6 h'_19 h'_20 oL dL h'_21 N10 m9 F8 hlE hlL hlT hlX hlP hlk1 hlk2 hlk3
  generalize hr : (Stmt.If _ _ _ _ :: _ : List Stmt) = rest
  refine wpAny_execs_cons ?_
  (with_unfolding_all refine' For_turns F8 ?hf ?hs ?hE)
  case hs => intro _; rfl
  case hE => passes_own
  k_steps
  show wpAny _ _ (pyIter (.ref _)) _ _ _
  refine iter_listTurns (by rfl) F8 N10 (ax := lTx) (vs := [Value.str (sOf f1.txt) ft1, Value.str (sOf f2.txt) ft2, Value.str (sOf f3.txt) ft3]) (.tail _ (.tail _ (.tail _ (.tail _ (.head _))))) rfl rfl ?_
  intro lIt hIt
  refine items_inv (vs := [Value.str (sOf f1.txt) ft1, Value.str (sOf f2.txt) ft2, Value.str (sOf f3.txt) ft3]) (fun i m news => JL (s1.heap.objs.size + 1 + 1) lKn [(lTo, listOf (List.toArray [Value.ref b1, Value.ref b2, Value.ref b3]) 3), (lTx, listOf (List.toArray [Value.str (sOf f1.txt) ft1, Value.str (sOf f2.txt) ft2, Value.str (sOf f3.txt) ft3]) 1), (lPr, listOf pv.toArray 0), (s1.heap.objs.size + 1 + 1 + 1, o1), (b1, listOf rv1.toArray kb1), (b2, listOf rv2.toArray kb2), (b3, listOf rv3.toArray kb3)]
    (fun lE tx z => if z = Str.ofString "ends" then some (.ref lE) else if z = Str.ofString "text" then tx else if z = Str.ofString "known" then some (.ref lKn) else if z = Str.ofString "told" then some (.ref lTo) else if z = Str.ofString "texts" then some (.ref lTx) else m9 z) (flats [f1, f2, f3] i) (12 * i) m news) ?turn6 ?done6 3 0 _ _ rfl ⟨oL, lLb, lEn, ev0, es0, _, [], 0, [], 0, [], [], [], [], _, rfl, rfl, dL, hes0, hel0, hee0, .nil, .nil, (fun _ h => nomatch h), inv_nil, (fun _ h => nomatch h), rfl, by decide, (fun _ h => nomatch h), hlL, hlE⟩
  case turn6 =>
    intro i v oI m news h16 tk16 hv hcI hJ F9 N9
    refine shut fun P9 hP9 => ?_
    obtain ⟨oL, lLb, lE, ev, es, ek, lv, lk, kv, kk, own, kx, N, labs, tx, rfl, rfl, dL, hes, hel, hee, hlv, hkn, hok, hInv, hlab, hflat, hkx, hkxs, hneL, hneE⟩ := hJ
    simp only [List.cons_append, List.nil_append] at N9
    obtain ⟨fi, ti, rfl, hfi, hfs1, hfs2, hfa⟩ : ∃ fi t, v = .str (sOf fi.txt) t ∧ Fo.fits fi ∧ 1 ≤ fi.size ∧ fi.size ≤ 10 ∧ [f1, f2, f3][i]? = some fi := by
      match i, hv with
      | 0, hv => exact ⟨f1, ft1, (Option.some.inj hv).symm, hf1m.2, by omega, by omega, rfl⟩
      | 1, hv => exact ⟨f2, ft2, (Option.some.inj hv).symm, (five f2s).2, by omega, by omega, rfl⟩
      | 2, hv => exact ⟨f3, ft3, (Option.some.inj hv).symm, hW2, hW5, hW4, rfl⟩
    obtain ⟨v0, v1, v2, v3, v4, v5, v6, v7, v8, v9, rfl, hrot⟩ := strs_ten hes hel
    have hi3 : i < 3 := (List.getElem?_eq_some_iff.mp hfa).1
    have hfil := Fo.len_txt fi
    refine hP9 ?_
    clear hP9
    refine Mine.hold2 fun Q7 E7 hQ7 hE7 => ?_
    clear hE7
    k_steps
    refine hQ7 _ _ ?_
    clear hQ7
    try dsimp only
    refine Mine.hold2 fun Q9 E9 hQ9 hE9 => ?_
    clear hE9
    k_steps
    show wpAny _ _ (call _ _) _ _ _
    rename Fr _ _ _ _ => F10
    rename News _ _ _ _ => N11
    have hsub : ∀ p ∈ own, p ∈ (lIt, oI) :: (s1.heap.objs.size + 1 + 1, oL) :: (lLb, listOf lv.toArray lk) :: (lE, listOf (List.toArray [v0, v1, v2, v3, v4, v5, v6, v7, v8, v9]) ek) :: (lTo, listOf (List.toArray [Value.ref b1, Value.ref b2, Value.ref b3]) 3) :: (lTx, listOf (List.toArray [Value.str (sOf f1.txt) ft1, Value.str (sOf f2.txt) ft2, Value.str (sOf f3.txt) ft3]) 1) :: (lPr, listOf pv.toArray 0) :: (s1.heap.objs.size + 1 + 1 + 1, o1) :: (b1, listOf rv1.toArray kb1) :: (b2, listOf rv2.toArray kb2) :: (b3, listOf rv3.toArray kb3) :: (lKn, listOf kv.toArray kk) :: own := fun p hp => by
      repeat (first | exact hp | refine List.Mem.tail _ ?_)
    (with_unfolding_all refine' use_labels (keep := [(lIt, oI), (s1.heap.objs.size + 1 + 1, oL), (lLb, listOf lv.toArray lk), (lE, listOf (List.toArray [v0, v1, v2, v3, v4, v5, v6, v7, v8, v9]) ek), (lTo, listOf (List.toArray [Value.ref b1, Value.ref b2, Value.ref b3]) 3), (lTx, listOf (List.toArray [Value.str (sOf f1.txt) ft1, Value.str (sOf f2.txt) ft2, Value.str (sOf f3.txt) ft3]) 1), (lPr, listOf pv.toArray 0), (s1.heap.objs.size + 1 + 1 + 1, o1), (b1, listOf rv1.toArray kb1), (b2, listOf rv2.toArray kb2), (b3, listOf rv3.toArray kb3)]) hfi hfs1 hfs2 hkn hok hes hel hee hInv ?kx N11 (by k_memK) hsub ?kp (ea := lE) (by k_memK) ?ne B0 F10 X0 T0 rfl ?d ?u ?_)
    case kx => omega
    case d => simp only [depth_caller, recursionLimit]; omega
    case u => have hcL9 := cLine_is; simp only [units_caller]; omega
    case kp =>
      ((try dsimp only); (repeat (first | with_reducible exact fun _ h => h | with_reducible exact sub_nil | (with_reducible refine sub_cons ?_ ?_; (focus first | ((repeat (first | with_reducible exact List.mem_cons_self | with_reducible refine List.mem_cons_of_mem _ ?_)); done) | ((repeat (first | with_unfolding_all exact List.Mem.head _ | refine List.Mem.tail _ ?_)); done))) | with_reducible refine sub_skip ?_)))
    case ne =>
      refine each_cons ?_ (each_cons ?_ (each_cons ?_ (each_cons ?_ (each_cons ?_ (each_cons ?_ (each_cons ?_ (each_cons ?_ (each_cons ?_ (each_cons ?_ (each_cons ?_ each_nil))))))))))
      · exact ⟨ne_cls N11 (.head _) (by k_memK) (o := oI) (p := listOf kv.toArray kk) (by rw [hcI]; intro e; injection e with e; exact absurd e (by decide)), own_ne N11 hok hsub (.head _) (.inr (.inl hcI))⟩
      · exact ⟨Ne.symm (ne_cell N11 (vs := kv.toArray) (k := kk) (by k_memK) (.tail _ (.head _)) dL), own_ne N11 hok hsub (.tail _ (.head _)) (.inr (.inr ⟨_, dL⟩))⟩
      · exact ⟨hneL, own_ne N11 hok hsub (o := listOf lv.toArray lk) (by k_memK) (.inl rfl)⟩
      · exact ⟨hneE, own_ne N11 hok hsub (o := listOf (List.toArray [v0, v1, v2, v3, v4, v5, v6, v7, v8, v9]) ek) (by k_memK) (.inl rfl)⟩
      · exact ⟨hlT, own_ne N11 hok hsub (o := listOf (List.toArray [Value.ref b1, Value.ref b2, Value.ref b3]) 3) (by k_memK) (.inl rfl)⟩
      · exact ⟨hlX, own_ne N11 hok hsub (o := listOf (List.toArray [Value.str (sOf f1.txt) ft1, Value.str (sOf f2.txt) ft2, Value.str (sOf f3.txt) ft3]) 1) (by k_memK) (.inl rfl)⟩
      · exact ⟨hlP, own_ne N11 hok hsub (o := listOf pv.toArray 0) (by k_memK) (.inl rfl)⟩
      · exact ⟨Ne.symm (ne_cell N11 (vs := kv.toArray) (k := kk) (p := o1) (by k_memK) (by k_memK) d1), own_ne N11 hok hsub (o := o1) (by k_memK) (.inr (.inr ⟨_, d1⟩))⟩
      · exact ⟨hlk1, own_ne N11 hok hsub (o := listOf rv1.toArray kb1) (by k_memK) (.inl rfl)⟩
      · exact ⟨hlk2, own_ne N11 hok hsub (o := listOf rv2.toArray kb2) (by k_memK) (.inl rfl)⟩
      · exact ⟨hlk3, own_ne N11 hok hsub (o := listOf rv3.toArray kb3) (by k_memK) (.inl rfl)⟩
    intro lR lv2 lk2 kv2 kk2 own2 kx2 N2 labs2 h17 tk17 hlv2 hkn2 hok2 hInv2 hpre hlab2 hval2 hkx2 hkxs2 F11 N12
    simp only [List.cons_append, List.nil_append] at N12
    clear F10 N11 hsub hkn hok
    have hsub : ∀ p ∈ own2, p ∈ (lR, listOf lv2.toArray lk2) :: (lKn, listOf kv2.toArray kk2) :: (lIt, oI) :: (s1.heap.objs.size + 1 + 1, oL) :: (lLb, listOf lv.toArray lk) :: (lE, listOf (List.toArray [v0, v1, v2, v3, v4, v5, v6, v7, v8, v9]) ek) :: (lTo, listOf (List.toArray [Value.ref b1, Value.ref b2, Value.ref b3]) 3) :: (lTx, listOf (List.toArray [Value.str (sOf f1.txt) ft1, Value.str (sOf f2.txt) ft2, Value.str (sOf f3.txt) ft3]) 1) :: (lPr, listOf pv.toArray 0) :: (s1.heap.objs.size + 1 + 1 + 1, o1) :: (b1, listOf rv1.toArray kb1) :: (b2, listOf rv2.toArray kb2) :: (b3, listOf rv3.toArray kb3) :: own2 := fun p hp => by
      repeat (first | exact hp | refine List.Mem.tail _ ?_)
    have hOff : OwnOff own2 [s1.heap.objs.size + 1 + 1] := own_off N12 hok2.kind hsub (fun b hb => by
      rw [List.mem_singleton.mp hb]
      exact ⟨oL, by k_memK, .inr ⟨_, dL⟩⟩)
    have hnc1 : @Ne Nat lR (s1.heap.objs.size + 1 + 1) := ne_cell N12 (.head _) (p := oL) (by k_memK) dL
    have hnc2 : @Ne Nat lKn (s1.heap.objs.size + 1 + 1) := ne_cell N12 (.tail _ (.head _)) (p := oL) (by k_memK) dL
    have hnc3 : @Ne Nat lIt (s1.heap.objs.size + 1 + 1) := Ne.symm (Nat.ne_of_lt (hIt (s1.heap.objs.size + 1 + 1, _) (.head _)))
    have hnc4 : @Ne Nat lLb (s1.heap.objs.size + 1 + 1) := ne_cell N12 (vs := lv.toArray) (k := lk) (by k_memK) (p := oL) (by k_memK) dL
    have hnc5 : @Ne Nat lE (s1.heap.objs.size + 1 + 1) := ne_cell N12 (vs := List.toArray [v0, v1, v2, v3, v4, v5, v6, v7, v8, v9]) (k := ek) (by k_memK) (p := oL) (by k_memK) dL
    have hnc6 : @Ne Nat lTo (s1.heap.objs.size + 1 + 1) := ne_cell N12 (vs := List.toArray [Value.ref b1, Value.ref b2, Value.ref b3]) (k := 3) (by k_memK) (p := oL) (by k_memK) dL
    have hnc7 : @Ne Nat lTx (s1.heap.objs.size + 1 + 1) := ne_cell N12 (vs := List.toArray [Value.str (sOf f1.txt) ft1, Value.str (sOf f2.txt) ft2, Value.str (sOf f3.txt) ft3]) (k := 1) (by k_memK) (p := oL) (by k_memK) dL
    have hnc8 : @Ne Nat lPr (s1.heap.objs.size + 1 + 1) := ne_cell N12 (vs := pv.toArray) (k := 0) (by k_memK) (p := oL) (by k_memK) dL
    have hnc9 : @Ne Nat (s1.heap.objs.size + 1 + 1 + 1) (s1.heap.objs.size + 1 + 1) := Nat.succ_ne_self _
    have hnIt : @Ne Nat lKn lIt := Nat.ne_of_lt (hIt (lKn, _) (by k_memK))
    have hll2 : lv.length + lv2.length ≤ 1000 := by
      have e1 := hlv.length
      have e2 := congrArg List.length hflat
      have e3 := flats_len (fs := [f1, f2, f3]) (i := i) (by
        intro f hf
        simp only [List.mem_cons, List.not_mem_nil, or_false] at hf
        rcases hf with rfl | rfl | rfl <;> omega)
      have e4 := hlv2.length
      have e5 := congrArg List.length hval2
      have e6 := fi.pre_len
      simp only [List.length_map, List.length_cons] at e1 e2 e3 e4 e5 e6
      omega
    k_steps
    rename Fr _ _ _ _ => F12
    rename News _ _ _ _ => N13
    rename_i lLb2 _ lLb2l _ oL2 dL2 _ _ _ _ _ _ lE2 _ lE2l _
    have hok3 := own_ne N13 hok2 (fun p hp => by repeat (first | exact hp | refine List.Mem.tail _ ?_)) (a := lIt) (o := oI) (by k_memK) (.inr (.inl hcI))
    refine hQ9 _ _ ?_
    refine ⟨_, _, _, (s1.heap.objs.size + 1 + 1, oL2) :: (lLb2, listOf (lv ++ lv2).toArray 0) :: (lE2, listOf (List.toArray ([v5, v6, v7, v8, v9] ++ [v0, v1, v2, v3, v4])) 0) :: ([(lTo, listOf (List.toArray [Value.ref b1, Value.ref b2, Value.ref b3]) 3), (lTx, listOf (List.toArray [Value.str (sOf f1.txt) ft1, Value.str (sOf f2.txt) ft2, Value.str (sOf f3.txt) ft3]) 1), (lPr, listOf pv.toArray 0), (s1.heap.objs.size + 1 + 1 + 1, o1), (b1, listOf rv1.toArray kb1), (b2, listOf rv2.toArray kb2), (b3, listOf rv3.toArray kb3)] ++ (lKn, listOf kv2.toArray kk2) :: own2), rfl, Fr.of_eq F12 (m' := (fun (lE : Addr) (tx : Option Value) z => if z = Str.ofString "ends" then some (Value.ref lE) else if z = Str.ofString "text" then tx else if z = Str.ofString "known" then some (.ref lKn) else if z = Str.ofString "told" then some (.ref lTo) else if z = Str.ofString "texts" then some (.ref lTx) else m9 z) lE2 (some (.str (sOf fi.txt) ti))) ?fr6, fun p hp => N13 p ?sub6, ?off6, ?keep6, oL2, lLb2, lE2, _, es.drop 5 ++ es.take 5, _, _, _, kv2, kk2, own2, kx2, N2, labs ++ labs2, _, rfl, rfl, dL2, hrot, ?el6, ?ee6, ?lv6, hkn2, hok2, hInv2, ?lb6, ?fl6, ?cap6, ?ks6, ?nL6, ?nE6⟩
    case fr6 =>
      intro z
      by_cases e1 : z = Str.ofString "ends"
      · simp only [e1, if_true]
      · by_cases e2 : z = Str.ofString "text"
        · simp only [e2, if_true]
        · simp only [e1, e2, if_false]
    case sub6 =>
      revert p
      (try dsimp only [List.cons_append, List.nil_append])
      ((try dsimp only); (repeat (first | with_reducible exact fun _ h => h | with_reducible exact sub_nil | (with_reducible refine sub_cons ?_ ?_; (focus first | ((repeat (first | with_reducible exact List.mem_cons_self | with_reducible refine List.mem_cons_of_mem _ ?_)); done) | ((repeat (first | with_unfolding_all exact List.Mem.head _ | refine List.Mem.tail _ ?_)); done))) | with_reducible refine sub_skip ?_)))
    case off6 =>
      intro p hp q hq
      rw [List.mem_singleton.mp hq]
      clear hq
      revert p
      (try dsimp only [List.cons_append, List.nil_append])
      refine each_cons ?_ (each_cons ?_ (each_cons ?_ (each_cons ?_ (each_cons ?_ (each_cons ?_ (each_cons ?_ (each_cons ?_ (each_cons ?_ (each_cons ?_ (each_cons ?_ (fun p hp => ?_)))))))))))
      · exact Ne.symm hnc3
      · exact Ne.symm (Nat.ne_of_lt lLb2l.2.2.1)
      · exact Ne.symm (Nat.ne_of_lt lE2l.2.2.2.2.2.1)
      · exact Nat.ne_of_lt (hIt (lTo, _) (by k_memK))
      · exact Nat.ne_of_lt (hIt (lTx, _) (by k_memK))
      · exact Nat.ne_of_lt (hIt (lPr, _) (by k_memK))
      · exact Nat.ne_of_lt (hIt (s1.heap.objs.size + 1 + 1 + 1, _) (by k_memK))
      · exact Nat.ne_of_lt (hIt (b1, _) (by k_memK))
      · exact Nat.ne_of_lt (hIt (b2, _) (by k_memK))
      · exact Nat.ne_of_lt (hIt (b3, _) (by k_memK))
      · exact hnIt
      · exact Ne.symm (hok3 p hp)
    case keep6 => exact And.intro (by simp only [List.cons_append, List.mem_cons, true_or, or_true]) trivial
    case el6 => simp [hel]
    case ee6 =>
      intro e he
      rcases List.mem_append.mp he with he | he
      · exact hee e (List.mem_of_mem_drop he)
      · exact hee e (List.mem_of_mem_take he)
    case lv6 =>
      rw [List.map_append]
      exact IntsAre.append hlv hlv2
    case lb6 =>
      intro l hl
      rcases List.mem_append.mp hl with hl | hl
      · exact Nat.lt_of_lt_of_le (hlab l hl) hpre.length_le
      · exact hlab2 l hl
    case fl6 => rw [List.map_append, pre_map hpre hlab, hflat, hval2, flats_snoc hfa]
    case cap6 => omega
    case ks6 => exact fun x hx => (hkxs2 x hx).elim (hkxs x) id
    case nL6 => exact Ne.symm (Nat.ne_of_lt lLb2l.2.1)
    case nE6 => exact Ne.symm (Nat.ne_of_lt lE2l.2.2.2.2.1)
  case done6 =>
    intro m news h18 tk18 hJ
    refine shut fun P9 hP9 => ?_
    obtain ⟨oLz, lLz, lE, ev, es, ek, lv, lk, kv, kk, own, kx, N, labs, tx, rfl, rfl, dLz, hes, hel, hee, hlv, hkn, hok, hInv, hlab, hflat, hkx, hkxs, hneL, hneE⟩ := hJ
    refine hP9 ?_
    clear hP9
    intro Fy Ny
    simp only [List.cons_append, List.nil_append] at Ny
    have Nz : News s1.heap s1.heap.objs.size h18 ((s1.heap.objs.size + 1 + 1, oLz) :: (lLz, listOf lv.toArray lk) :: (lTo, listOf (List.toArray [Value.ref b1, Value.ref b2, Value.ref b3]) 3) :: (s1.heap.objs.size + 1 + 1 + 1, o1) :: (b1, listOf rv1.toArray kb1) :: (b2, listOf rv2.toArray kb2) :: (b3, listOf rv3.toArray kb3) :: (lKn, listOf kv.toArray kk) :: own) := news_sub Ny (by ((try dsimp only); (repeat (first | with_reducible exact fun _ h => h | with_reducible exact sub_nil | (with_reducible refine sub_cons ?_ ?_; (focus first | ((repeat (first | with_reducible exact List.mem_cons_self | with_reducible refine List.mem_cons_of_mem _ ?_)); done) | ((repeat (first | with_unfolding_all exact List.Mem.head _ | refine List.Mem.tail _ ?_)); done))) | with_reducible refine sub_skip ?_))))
    have hflat3 : (labs.map fun l => N.getD l 0) = flats [f1, f2, f3] 3 := hflat
    have hkx3 : kx.length ≤ 36 := hkx
    clear hflat hkx Ny hes hel hee hneE hIt
    have Fz : Fr s1.heap s1.heap.objs.size h18 (fun z => if z = Str.ofString "ends" then some (.ref lE) else if z = Str.ofString "text" then tx else if z = Str.ofString "known" then some (.ref lKn) else if z = Str.ofString "told" then some (.ref lTo) else if z = Str.ofString "texts" then some (.ref lTx) else m9 z) := Fy
    clear Fy
    subst hr
    revert w s₀ s1 mg mb G Y fa o pm doc ho hg X0 X V GL T0 B TE TW w_1 w_2 M w_3 w_4 hcd sns hs hlay0 hL hr hl2 w_5 w_6 sa svs w_7 hSL ra w1 r0 hr_1 hlen hcond' hD h1 tk1 o1 o2 o3 d1 d2 d3 B0 hI kM lPr h' lPrl h'_1 oP dP tk lNu h'_2 lNul h'_3 lOwn h'_4 lOwnl D' ws' h'_5 hI' hC' hL' l1 l' h'_6 l1_1 D'_1 h'_7 i1 n1 s1_1 e1 e2 e3 l1_2 lY ys h'_8 lYl pv hpv hnO hnY m1 h9 tk9 nums nv kn hnv a hn10 D'_2 ws'_1 h'_9 hC'_1 hL'_1 l1_3 f1 ft1 h10 tk10 f1k f1s D'_3 ws'_2 h'_10 hC'_2 hL'_2 l1_4 f2 ft2 h11 tk11 f2k f2s hf1l hf2l lTx h'_11 lTxl h'_12 tk_1 g4 b1 rv1 kb1 b2 rv2 kb2 hb1 hb2 hbx1 hbx2 lTo h12 tk12 hbc1 hbc2 hbc3 hbc4 ot1 ot2 ot3 ot4 ot5 ot6 ot7 ot8 right l'_1 h'_13 l1_5 tk_2 t hf1m hf1t hn1 ft3 h13 tk13 f3 hf3 hW1 hW2 hW3 hW4 hW5 hf3l h'_14 tk_3 b3 rv3 kb3 h14 tk14 hb3 hn31 hn32 hbc5 hbc6 h'_15 g5 hnl ev0 es0 hel0 hes0 hee0 lEn h15 tk15 oe1 oe2 oe3 oe4 oe5 oe6 oe7 oe8 oe9 oe10 right_1 lLb h'_16 lKn h'_17 D'_4 h'_18 l1_6 h'_19 h'_20 oL dL h'_21 N10 m9 F8 hlE hlL hlT hlX hlP hlk1 hlk2 hlk3 lIt h18 tk18 oLz lLz lE ev es ek lv lk kv kk own kx N labs tx dLz hlv hkn hok hInv hlab hkxs hneL Nz hflat3 hkx3 Fz
    exact hCut.out)⟩
end Mine
end
section
open PySem PySem.W PySem.Calls PyProof.Rows
set_option maxRecDepth 100000
namespace Mine
theorem lines_K5 : True := by
  w_top off
  k_with_none
  k_with "call ref" => (k_here; (with_reducible show wpAny _ _ (call (Value.ref _) _) _ _ _); refine Mine.unheld ?_)
  k_with "CompSrc" => (k_here; refine Mine.unheld ?_)
  k_with "CompSrcT" => (k_here; refine Mine.unheld ?_)
  k_with "getMethod ref" => (k_here; (with_reducible show wpAny _ _ (getMethod (Value.ref _) (PySem.Str.ofString "equal") _) _ _ _); refine Mine.unheld ?_)
  k_with "subscriptTail" => (k_here; (with_reducible show wpAny _ _ (subscriptTail _ (PySem.Expr.Slice none (some _) none _) (Value.str _ _) (Value.ref _)) _ _ _); refine Mine.unheld ?_)
  k_with "binaryOp Add str str" => (k_here; (refine Mine.add_s (y := [32]) (by (simp only [List.length_singleton]; omega)) ?_); intro _ _)
  k_with "compareOp NotEq ref ref" => (k_here; (with_reducible show wpAny _ _ (compareOp CmpOp.NotEq (Value.ref _) (Value.ref _)) _ _ _); k_dflt (refine Mine.ne_strs (by is_list) (by is_list) (by first | assumption | exact StrsAre.nil) (by first | assumption | exact StrsAre.nil) (by first | assumption | exact Mine.nil_ok | exact Mine.cls_ok _) (by first | assumption | exact Mine.nil_ok | exact Mine.cls_ok _) (by ((have hcL9 := cLine_is); (simp only [units_in1, units_deeper, Around.mark_units, units_caller] at *); (try dsimp only [ktrTop] at *); omega)) ?_))
  trivial
set_option maxHeartbeats 40000000 in
noncomputable def cut5 : PSigma (fun P : Prop => Cut P → (cut4).1) := ⟨_, fun hCut => (by
  intro hq0
  revert hq0
  k_fill
  intro w s₀ s1 mg mb G Y fa o pm doc ho hg X0 X V GL T0 B TE TW w_1 w_2 M w_3 w_4 hcd sns hs hlay0 hL hr hl2 w_5 w_6 sa svs w_7 hSL ra w1 r0 hr_1 hlen hcond' hD h1 tk1 o1 o2 o3 d1 d2 d3 B0 hI kM lPr h' lPrl h'_1 oP dP tk lNu h'_2 lNul h'_3 lOwn h'_4 lOwnl D' ws' h'_5 hI' hC' hL' l1 l' h'_6 l1_1 D'_1 h'_7 i1 n1 s1_1 e1 e2 e3 l1_2 lY ys h'_8 lYl pv hpv hnO hnY m1 h9 tk9 nums nv kn hnv a hn10 D'_2 ws'_1 h'_9 hC'_1 hL'_1 l1_3 f1 ft1 h10 tk10 f1k f1s D'_3 ws'_2 h'_10 hC'_2 hL'_2 l1_4 f2 ft2 h11 tk11 f2k f2s hf1l hf2l lTx h'_11 lTxl h'_12 tk_1 g4 b1 rv1 kb1 b2 rv2 kb2 hb1 hb2 hbx1 hbx2 lTo h12 tk12 hbc1 hbc2 hbc3 hbc4 ot1 ot2 ot3 ot4 ot5 ot6 ot7 ot8 right l'_1 h'_13 l1_5 tk_2 t hf1m hf1t hn1 ft3 h13 tk13 f3 hf3 hW1 hW2 hW3 hW4 hW5 hf3l h'_14 tk_3 b3 rv3 kb3 h14 tk14 hb3 hn31 hn32 hbc5 hbc6 h'_15 g5 hnl ev0 es0 hel0 hes0 hee0 lEn h15 tk15 oe1 oe2 oe3 oe4 oe5 oe6 oe7 oe8 oe9 oe10 right_1 lLb h'_16 lKn h'_17 D'_4 h'_18 l1_6 h'_19 h'_20 oL dL h'_21 N10 m9 F8 hlE hlL hlT hlX hlP hlk1 hlk2 hlk3 lIt h18 tk18 oLz lLz lE ev es ek lv lk kv kk own kx N labs tx dLz hlv hkn hok hInv hlab hkxs hneL Nz hflat3 hkx3 Fz
  generalize hr : (Stmt.Assign [Expr.Name (Str.ofString "flat") _] _ _ :: _ : List Stmt) = rest
  k_steps
  show LCt.CompSrcT _ _ _ _ _ _ _ _ _ _ _ _ _ _ _
  have hkl : kv.length = kx.length := hkn.length
  refine LCt.CompSrcT.ledger (by rfl) Fz Nz (by k_memK) (by rw [sizeLine_eq, List.size_toArray]; omega) ?_
  intro g6
  have hkz : kv.toArray.size = kx.length := by rw [List.size_toArray, hkl]
  rw [hkz]
  refine comp_invT kx.length (fun i ys news => ys = [] ∧ news = ((s1.heap.objs.size + 1 + 1, oLz) :: (lLz, listOf lv.toArray lk) :: (lTo, listOf (List.toArray [Value.ref b1, Value.ref b2, Value.ref b3]) 3) :: (s1.heap.objs.size + 1 + 1 + 1, o1) :: (b1, listOf rv1.toArray kb1) :: (b2, listOf rv2.toArray kb2) :: (b3, listOf rv3.toArray kb3) :: (lKn, listOf kv.toArray kk) :: own)) ?fin7 ?turn7 kx.length 0 [] _ (by omega) ⟨rfl, rfl⟩
  case turn7 =>
    rintro i ys news v I oI C oC D m2 h3 tk3 E' hi ⟨rfl, rfl⟩ hv hC hm2 F5 N5 o3f ne3
    obtain ⟨X, hKi, hKw⟩ := hkn.get i hi
    obtain rfl : v = .ref X := by
      have h1 : kv[i]? = some v := by simpa using hv
      rw [hKi] at h1
      exact (Option.some.inj h1).symm
    clear hv
    obtain ⟨ls, n0, hxe, _⟩ := hInv.2.2 i (by rw [← hInv.1]; exact hi)
    have hxl : (kx.getD i []).length ≤ 740 := hkxs _ (mem_getD hi)
    rw [hxe] at hKw hxl
    have hscan : (scan (lt ls ++ tabs n0) 0 0 0 []).1 = (lt ls).length := by rw [scan_lead]
    rw [List.length_append] at hxl
    k_steps
    show wpAny _ _ (getMethod _ _ _) _ _ _
    rename Fr _ _ _ _ => F8
    rename News _ _ _ _ => N9
    have hW9 : ∀ {hh : Heap}, News s1.heap s1.heap.objs.size hh ((I, oI) :: (C, oC) :: (D, LCg.lst []) :: (s1.heap.objs.size + 1 + 1, oLz) :: (lLz, listOf lv.toArray lk) :: (lTo, listOf (List.toArray [Value.ref b1, Value.ref b2, Value.ref b3]) 3) :: (s1.heap.objs.size + 1 + 1 + 1, o1) :: (b1, listOf rv1.toArray kb1) :: (b2, listOf rv2.toArray kb2) :: (b3, listOf rv3.toArray kb3) :: (lKn, listOf kv.toArray kk) :: own) → WsC (fun a o => hh.get? a = some o) X (lt ls ++ tabs n0) := fun NN => hKw.mono fun a o h => (NN (a, o) (by repeat (first | exact h | refine List.Mem.tail _ ?_))).1
    refine equal_method F8 X0 (hW9 N9) ?_
    dsimp only
    k_steps
    rename Fr _ _ _ _ => F8
    rename News _ _ _ _ => N9
    refine lead_raw F8 X0 (hW9 N9) ?_
    intro tr
    dsimp only
    k_steps
    rename Fr _ _ _ _ => F8
    rename News _ _ _ _ => N9
    refine lead_n F8 X0 (hW9 N9) hscan ?_
    intro tn
    dsimp only
    k_steps
    show wpAny _ _ (subscriptTail _ _ _ _) _ _ _
    rename Fr _ _ _ _ => F8
    rename News _ _ _ _ => N9
    refine slice_raw (s := ⟨_, _, _, _, _⟩) F8 N9 (by omega) ?_ (by with_unfolding_all rfl) (by intro _; with_unfolding_all rfl)
    intro h20 t20 k20 F9 N10
    clear F8 N9
    dsimp only
    k_steps
    show wpAny _ _ (call _ _) _ _ _
    (with_unfolding_all refine' use_make (x := lt ls ++ [32]) ?hl B0 F9 X0 N10 T0 rfl ?d ?u ?_)
    case hl => simp only [List.length_append, List.length_singleton]; omega
    case d => simp only [depth_caller, recursionLimit]; omega
    case u => have hcL9 := cLine_is; simp only [units_caller]; omega
    intro X2 four h21 tk21 F10 N11 hk4 hw4
    simp only [List.cons_append] at N11
    clear F9 N10
    k_steps
    show wpAny _ _ (call _ _) _ _ _
    rename Fr _ _ _ _ => F9
    rename News _ _ _ _ => N10
    (with_unfolding_all refine' use_equal (x := lt ls ++ tabs n0) (y := lt ls ++ [32]) (hKw.mono fun a o h => (N10 (a, o) (by repeat (first | exact List.mem_append.mpr (.inl h) | refine List.Mem.tail _ ?_))).1) (hw4.mono fun a o h => (N10 (a, o) (by repeat (first | exact List.mem_append.mpr (.inr h) | refine List.Mem.tail _ ?_))).1) B0 F9 X0 N10 T0 rfl ?d ?u ?_)
    case d => simp only [depth_caller, recursionLimit]; omega
    case u => have hcL9 := cLine_is; simp only [units_caller]; omega
    intro h22 tk22 F11 N12
    clear F9 N10
    rw [show decide (normOf (lt ls ++ tabs n0) = normOf (lt ls ++ [32])) = false by rw [norm_lead, norm_more]; simp]
    k_steps
    refine LCg.CompEnd.intro F11 N12 _ (fun p hp => ?_) o3f (.inr ⟨_, by k_memK, rfl, _, rfl⟩) ⟨rfl, rfl⟩
    simp only [List.mem_cons, List.mem_append] at hp ⊢
    rcases hp with rfl | rfl | rfl | rfl | rfl | rfl | rfl | rfl | rfl | rfl | rfl | hp <;> simp only [true_or, or_true, *]
  case fin7 =>
    rintro ys news ⟨rfl, rfl⟩
    intro lC h19 tk19 F11 N12 o1g
    clear Fz Nz o1g
    k_steps
    rename Fr _ _ _ _ => Fx
    rename News _ _ _ _ => N10
    have Nx := News.subL N10 (l := [(s1.heap.objs.size + 1 + 1, oLz), (lLz, listOf lv.toArray lk), (lTo, listOf (List.toArray [Value.ref b1, Value.ref b2, Value.ref b3]) 3), (s1.heap.objs.size + 1 + 1 + 1, o1), (b1, listOf rv1.toArray kb1), (b2, listOf rv2.toArray kb2), (b3, listOf rv3.toArray kb3)]) (by k_subL)
    clear N10 hkn hok hkxs hkx3 hkl hkz
    subst hr
    rename_i q63 q267 q268 q270
    revert w s₀ s1 mg mb G Y fa o pm doc ho hg X0 X V GL T0 B TE TW w_1 w_2 M w_3 w_4 hcd sns hs hlay0 hL hr hl2 w_5 w_6 sa svs w_7 hSL ra w1 r0 hr_1 hlen hcond' hD h1 tk1 o1 o2 o3 d1 d2 d3 B0 hI kM lPr h' lPrl h'_1 oP dP q63 lNu h'_2 lNul h'_3 lOwn h'_4 lOwnl D' ws' h'_5 hI' hC' hL' l1 l' h'_6 l1_1 D'_1 h'_7 i1 n1 s1_1 e1 e2 e3 l1_2 lY ys h'_8 lYl pv hpv hnO hnY m1 h9 tk9 nums nv kn hnv a hn10 D'_2 ws'_1 h'_9 hC'_1 hL'_1 l1_3 f1 ft1 h10 tk10 f1k f1s D'_3 ws'_2 h'_10 hC'_2 hL'_2 l1_4 f2 ft2 h11 tk11 f2k f2s hf1l hf2l lTx h'_11 lTxl h'_12 tk_1 g4 b1 rv1 kb1 b2 rv2 kb2 hb1 hb2 hbx1 hbx2 lTo h12 tk12 hbc1 hbc2 hbc3 hbc4 ot1 ot2 ot3 ot4 ot5 ot6 ot7 ot8 right l'_1 h'_13 l1_5 tk_2 t hf1m hf1t hn1 ft3 h13 tk13 f3 hf3 hW1 hW2 hW3 hW4 hW5 hf3l h'_14 tk_3 b3 rv3 kb3 h14 tk14 hb3 hn31 hn32 hbc5 hbc6 h'_15 g5 hnl ev0 es0 hel0 hes0 hee0 lEn h15 tk15 oe1 oe2 oe3 oe4 oe5 oe6 oe7 oe8 oe9 oe10 right_1 lLb h'_16 lKn h'_17 D'_4 h'_18 l1_6 h'_19 h'_20 oL dL h'_21 m9 hlE hlL hlT hlX hlP hlk1 hlk2 hlk3 lIt h18 tk18 oLz lLz lE ev es ek lv lk kv kk own kx N labs tx dLz hlv hInv hlab hneL hflat3 g6 lC h19 tk19 q267 q268 Fx q270 tk Nx
    exact hCut.out)⟩
end Mine
end
section
open PySem PySem.W PySem.Calls PyProof.Rows
set_option maxRecDepth 100000
namespace Mine
theorem lines_K6 : True := by
  w_top off
  k_with_none
  k_with "binaryOp Add ref ref" => (k_here; (with_reducible show wpAny _ _ (binaryOp _ (Value.ref _) (Value.ref _)) _ _ _); k_dflt (refine Mine.add_vals (by k_asm) (by k_asm) (by is_list) (by is_list) (by ((try simp only [List.length_cons, List.length_nil, List.length_append] at *); omega)) ?_); intro D' h' F' N' l1; (try k_lt l1); (try k_sweep); revert D' h'; intros)
  k_with "subscriptTail" => (k_here; (with_reducible show wpAny _ _ (subscriptTail _ _ (Value.ref _) (Value.int _ _)) _ _ _); k_dflt (refine Mine.item_v (by is_list) (by decide) (by decide) (by rfl) ?_))
  k_with "subscriptTail" => (k_here; (with_reducible show wpAny _ _ (subscriptTail _ (PySem.Expr.Slice none (some _) none _) (Value.ref _) (Value.ref _)) _ _ _); k_dflt (refine Mine.slice_one (by k_asm) (by k_asm) (by is_list) (by kmk_part) (by kmk_part) ?_ (by with_unfolding_all rfl) (by kmk_pure) (by omega)); intro D' h' F' N' l1; (try k_lt l1); (try k_sweep); revert D' h'; intros)
  k_with "compareOp NotEq ref ref" => (k_here; (with_reducible show wpAny _ _ (compareOp CmpOp.NotEq (Value.ref _) (Value.ref _)) _ _ _); k_dflt (refine Mine.ne_ints (by is_list) (by is_list) (by assumption) (by assumption) (by assumption) (by ((have hcL9 := cLine_is); (simp only [units_in1, units_deeper, Around.mark_units, units_caller] at *); omega)) ?_))
  k_with "eval ListComp" => (k_here; refine Mine.unheld ?_)
  trivial
set_option maxHeartbeats 40000000 in
theorem law_last : cut5.1 := by
  intro hq0
  revert hq0
  k_fill
  intro w s₀ s1 mg mb G Y fa o pm doc ho hg X0 X V GL T0 B TE TW w_1 w_2 M w_3 w_4 hcd sns hs hlay0 hL hr hl2 w_5 w_6 sa svs w_7 hSL ra w1 r0 hr_1 hlen hcond' hD h1 tk1 o1 o2 o3 d1 d2 d3 B0 hI kM lPr h' lPrl h'_1 oP dP tk lNu h'_2 lNul h'_3 lOwn h'_4 lOwnl D' ws' h'_5 hI' hC' hL' l1 l' h'_6 l1_1 D'_1 h'_7 i1 n1 s1_1 e1 e2 e3 l1_2 lY ys h'_8 lYl pv hpv hnO hnY m1 h9 tk9 nums nv kn hnv a hn10 D'_2 ws'_1 h'_9 hC'_1 hL'_1 l1_3 f1 ft1 h10 tk10 f1k f1s D'_3 ws'_2 h'_10 hC'_2 hL'_2 l1_4 f2 ft2 h11 tk11 f2k f2s hf1l hf2l lTx h'_11 lTxl h'_12 tk_1 g4 b1 rv1 kb1 b2 rv2 kb2 hb1 hb2 hbx1 hbx2 lTo h12 tk12 hbc1 hbc2 hbc3 hbc4 ot1 ot2 ot3 ot4 ot5 ot6 ot7 ot8 right l'_1 h'_13 l1_5 tk_2 t hf1m hf1t hn1 ft3 h13 tk13 f3 hf3 hW1 hW2 hW3 hW4 hW5 hf3l h'_14 tk_3 b3 rv3 kb3 h14 tk14 hb3 hn31 hn32 hbc5 hbc6 h'_15 g5 hnl ev0 es0 hel0 hes0 hee0 lEn h15 tk15 oe1 oe2 oe3 oe4 oe5 oe6 oe7 oe8 oe9 oe10 right_1 lLb h'_16 lKn h'_17 D'_4 h'_18 l1_6 h'_19 h'_20 oL dL h'_21 m9 hlE hlL hlT hlX hlP hlk1 hlk2 hlk3 lIt h18 tk18 oLz lLz lE ev es ek lv lk kv kk own kx N labs tx dLz hlv hInv hlab hneL hflat3 g6 lC h19 tk19 l'_2 h'_22 Fx l1_7 tk_4 Nx
  have hbl1 : rv1.length = 6 := by rw [hb1.length, List.length_cons, Fo.pre_len]; omega
  have hbl2 : rv2.length = 6 := by rw [hb2.length, List.length_cons, Fo.pre_len]; omega
  have hbl3 : rv3.length ≤ 11 := by rw [hb3.length, List.length_cons, Fo.pre_len]; omega
  obtain ⟨tq1, wq1, hrv1, _⟩ := ints_cons hb1
  obtain ⟨tq3, wq3, hrv3, _⟩ := ints_cons hb3
  have hT1 : IntsAre (rv1.take 1) [f1.num] := by rw [hrv1, List.take_succ_cons, List.take_zero]; exact .cons _ _ .nil
  have hT3 : IntsAre (rv3.take 1) [f3.num] := by rw [hrv3, List.take_succ_cons, List.take_zero]; exact .cons _ _ .nil
  have hTn : f3.num = f1.num := hW1.trans (Int.toNat_of_nonneg (Int.le_trans (by decide) hf1t))
  have hTe : [f3.num] = [f1.num] := by rw [hTn]
  clear hrv1 hrv3
  have hcf1 : @Ne Nat (s1.heap.objs.size + 1 + 1) (s1.heap.objs.size + 1 + 1 + 1) := Nat.ne_of_lt (Nat.lt_succ_self _)
  have hcf2 : @Ne Nat lLz (s1.heap.objs.size + 1 + 1 + 1) := ne_cell Nx (vs := lv.toArray) (k := lk) (by k_memK) (p := o1) (by k_memK) d1
  have hcf3 : @Ne Nat lTo (s1.heap.objs.size + 1 + 1 + 1) := ne_cell Nx (vs := List.toArray [Value.ref b1, Value.ref b2, Value.ref b3]) (k := 3) (by k_memK) (p := o1) (by k_memK) d1
  k_steps
  show wpAny _ _ (eval _ _) _ _ _
  rename Fr _ _ _ _ => F20
  rename News _ _ _ _ => N20
  rename_i lFl _ _ _ oF dF _ _ _ _ _ _ _ _ _ _ _ _ _ _
  have N21 := News.subL N20 (l := [(s1.heap.objs.size + 1 + 1, oLz), (lLz, listOf lv.toArray lk), (s1.heap.objs.size + 1 + 1 + 1, oF), (lFl, listOf (rv1 ++ rv2 ++ rv3).toArray 0)]) (by k_subL)
  have hlf : IntsAre (rv1 ++ rv2 ++ rv3) (flats [f1, f2, f3] 3) := by
    rw [flats_three]
    exact IntsAre.append (IntsAre.append hb1 hb2) hb3
  have hlvl : lv.length ≤ 40 := by
    rw [hlv.length, List.length_map]
    have e1 : labs.length = (flats [f1, f2, f3] 3).length := by rw [← hflat3, List.length_map]
    rw [e1, ← hlf.length, List.length_append, List.length_append, hbl1, hbl2]
    omega
  have hfll : (rv1 ++ rv2 ++ rv3).length ≤ 40 := by
    rw [List.length_append, List.length_append, hbl1, hbl2]
    omega
  have hz1 : lv.length * lv.length ≤ sizeLine := Nat.le_trans (Nat.mul_le_mul hlvl hlvl) (by rw [sizeLine_eq]; decide)
  have hz2 : (rv1 ++ rv2 ++ rv3).length * (rv1 ++ rv2 ++ rv3).length ≤ sizeLine := Nat.le_trans (Nat.mul_le_mul hfll hfll) (by rw [sizeLine_eq]; decide)
  k_dflt (refine two_eq F20 N21 (by rfl) hlv (.tail _ (.head _)) (.head _) dLz hz1 (by with_unfolding_all rfl) (by decide) (by rfl) (by decide) (by rfl) (by rfl) (by decide) (by decide) (by decide) (by decide) (by rfl) (by rfl) (by rfl) (by rfl) (fun _ => by rfl) (by with_unfolding_all rfl) ?_)
  intro lD1 h30 tk30 F21 N22 _
  k_dflt (refine two_eq F21 N22 (by rfl) hlf (.tail _ (.tail _ (.tail _ (.tail _ (.head _))))) (.tail _ (.tail _ (.tail _ (.head _)))) dF hz2 (by with_unfolding_all rfl) (by decide) (by rfl) (by decide) (by rfl) (by rfl) (by decide) (by decide) (by decide) (by decide) (by rfl) (by rfl) (by rfl) (by rfl) (fun _ => by rfl) (by with_unfolding_all rfl) ?_)
  intro lD2 h31 tk31 F22 N23 _
  refine eq_bools (News.isList N23 (.tail _ (.head _))) (News.isList N23 (.head _)) ?u ?_
  case u => have hcL9 := cLine_is; simp only [units_caller, Around.deeper]; omega
  rw [eqs_same hInv.2.1 hlab hflat3, decide_eq_true rfl]
  k_steps
theorem law_walk : PySem.Challenge.rw_rw0103_01.Holds := cut1.2 ⟨cut2.2 ⟨cut3.2 ⟨cut4.2 ⟨cut5.2 ⟨law_last⟩⟩⟩⟩⟩
end Mine
end
theorem PySem.Challenge.cw_rw0103_01_holds : PySem.Challenge.rw_rw0103_01.Holds :=
  Mine.law_walk
